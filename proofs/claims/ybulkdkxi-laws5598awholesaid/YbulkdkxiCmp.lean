import Derived.Test.YbulkdkxiLast
import Derived.Test.YbulkdkxiSrt
import Derived.Test.YbulkdkxiTopC
/-! The test that sortedPlaces hands to the sort; the sort's worlds. -/
namespace Go.Proofs.Ybulkdkxi.lawS5598AWhole
open Go.RowKit Go.Deep
open Go.Sort (swp size_swp)
set_option linter.unusedVariables false
set_option linter.unusedSimpArgs false

/-- What the region of the test reads. -/
def Held (K : Ks) (w : World) : Prop := w.cell? ⟨K.so, 0, none⟩ = some (.func (.func 6) #[] #[]) ∧ w.cell? ⟨K.so, 1, none⟩ = some (.func (.func 8) #[] #[]) ∧ w.cell? ⟨K.sd, 0, none⟩ = some K.lastV
theorem St.held {K : Ks} {q : Nat} {w : World} (h : St K q w) : Held K w := ⟨h.st.ord.cell (i := 0) (by omega), h.st.ord.cell (i := 1) (by omega), h.st.last.cell (i := 0) (by omega)⟩

/-- The state where its blocks are as they were. -/
theorem St.keep {K : Ks} (hK : K.Ok) {q : Nat} {w w' : World} (h : St K q w) (hs : w.heap.size ≤ w'.heap.size) (hb : ∀ c, c < K.N → K.bm ≤ c → (c ∈ [K.bm, K.bn, K.bc, K.sd, K.so, K.bd, K.bp, K.be, K.bk, K.bo]) → w'.heap[c]? = w.heap[c]?) (hg : ∀ c, Back K.bc w c → w'.heap[c]? = w.heap[c]?) : St K q w' := by
  have k1 := hK.h1; have k2 := hK.h2; have k3 := hK.h3; have k4 := hK.h4; have k5 := hK.h5; have k6 := hK.h6; have k7 := hK.h7; have k8 := hK.h8; have k9 := hK.h9; have k10 := hK.h10
  obtain ⟨⟨s1, s2, s3, s4, s5, s6, a, n, c, xs, c1, c2, c3, c4⟩, k, o, P, En, e1, e2, e3, e4, e5, e6, e7⟩ := h
  refine ⟨⟨s1.of_block (hb _ (by omega) (by omega) (by simp)), s2.of_block (hb _ (by omega) (by omega) (by simp)), s3.of_block (hb _ (by omega) (by omega) (by simp)), s4.of_block (hb _ (by omega) (by omega) (by simp)), s5.of_block (hb _ (by omega) (by omega) (by simp)), by omega, a, n, c, xs, c1.of_block (hb _ (by omega) (by omega) (by simp)), ?_, c3, c4⟩, k, o, P, En, e1, e2, e3.of_block (hb _ (by omega) (by omega) (by simp)), e4.of_block (hb _ (by omega) (by omega) (by simp)), e5.of_block (hb _ (by omega) (by omega) (by simp)), e6.of_block (hb _ (by omega) (by omega) (by simp)), e7⟩
  refine ⟨c2.1, ?_⟩
  rcases c2.2 with h | ⟨g, cap, cur, hv, h1, h2, r⟩
  · exact .inl h
  · injection hv with hv hn hc
    subst hv
    refine .inr ⟨g, cap, cur, by rw [hc], h1, ?_, r⟩
    rw [hg g ⟨⟨g, 0, none⟩, n, c, c1.cell (i := 0) (by omega), rfl⟩]
    exact h2

theorem Ks.Ok.bcN {K : Ks} (hK : K.Ok) : K.bc < K.N := by
  have k3 := hK.h3; have k4 := hK.h4; have k5 := hK.h5; have k6 := hK.h6; have k7 := hK.h7; have k8 := hK.h8; have k9 := hK.h9; have k10 := hK.h10; omega
theorem St.alloc {K : Ks} (hK : K.Ok) {q : Nat} {w : World} (h : St K q w) (o : Obj) : St K q (w.alloc o) :=
  h.keep hK (by simp) (fun c hc _ _ => blk_alloc_lt _ _ _ (Nat.lt_of_lt_of_le hc h.st.low)) (fun c hb => blk_alloc_lt _ _ _ (h.st.calls.back hb).2)
theorem St.drewN {K : Ks} {q : Nat} {w : World} (h : St K q w) (k : Nat) : St K q (w.drewN k) := ⟨h.st.drewN k, h.cache⟩

/-- The state, and how it came from w0. -/
def Gone (K : Ks) (w0 : World) (q : Nat) (w : World) : Prop := St K q w ∧ Moved K.L K.bc w0 w

theorem last_g (K : Ks) (hK : K.Ok) (w0 : World) (z : Int) (q : Nat) (w : World) (hz : K.Pl z) (hg : Gone K w0 q w) (hq : q ≤ 10000000000000) :
    Calls Yba.prog 22 #[uV z, pt K.bk, pt K.bp, pt K.be, pt K.bd, pt K.bo] w fun e w' => e = .returned (.int .i64 (K.dec z)) ∧ Gone K w0 (q + 1) w' :=
  (last_y K hK q z w hz hq hg.1).mono fun e w' ⟨h1, h2, h3⟩ => ⟨h1, h2, hg.2.trans h3⟩

set_option maxRecDepth 100000 in
set_option maxHeartbeats 4000000 in
theorem cmp16_y (K : Ks) (hK : K.Ok) (q : Nat) (x y : Int) (w : World) (hx : K.Pl x) (hy : K.Pl y) (hq : q + 2 ≤ 10000000000000) (h : St K q w) :
    Calls Yba.prog 16 #[uV x, uV y, pt K.so, pt K.sd] w fun e w' => e = .returned (.int .i64 (cmpI (K.dec x) (K.dec y))) ∧ St K (q + 2) w' ∧ Moved K.L K.bc w w' := by
  have mixed := mixedY
  have rx := decF_range K.mask K.neg (hK.up x hx) hK.um
  have ry := decF_range K.mask K.neg (hK.up y hy) hK.um
  have ho := hid_mk (fun w => order_y (K.dec x) (K.dec y) w rx ry)
  have G0 : Gone K w q w.drew := ⟨⟨h.st.drewN 1, h.cache⟩, (Moved.refl _ _ w).drewN 1⟩
  have hl := hid_mk (last_g K hK w)
  have HK := hid_mk hK
  clear h rx ry hK
  go_enter Yba.func16, Yba.ntmps16
  go_upto_region 1 with fail
  go_region_held3 (fun w' => w'.cell? ⟨K.so, 0, none⟩ = some (.func (.func 6) #[] #[]) ∧ w'.cell? ⟨K.so, 1, none⟩ = some (.func (.func 8) #[] #[]) ∧ w'.cell? ⟨K.sd, 0, none⟩ = some K.lastV) (first | exact G0.1.held | exact G1.1.held | exact (G1.1.alloc HK.out _).held) (first | (go_at_call 22; refine (hl.out _ _ _ (by assumption) (by assumption) (by omega)).mono ?_; rintro e w1 ⟨rfl, G1⟩) | (go_at_call 17; refine (ho.out _).mono ?_; rintro e w3 ⟨rfl, rfl⟩))
  go_wp2_with fail
  go_ret
  exact ⟨rfl, G1.1.alloc HK.out _, G1.2.alloc _ (Nat.lt_of_lt_of_le HK.out.bcN G1.1.st.low)⟩

/-- What stands in the place of 'cmp' in plain words. -/
abbrev Ks.cf (K : Ks) (x y : Int) : Int := cmpI (K.dec x) (K.dec y)
theorem Ks.lt_iff (K : Ks) (x y : Int) : ltc K.cf x y = decide (K.dec x < K.dec y) := by
  unfold ltc Ks.cf cmpI
  by_cases h : K.dec x < K.dec y
  · simp [h]
  · by_cases h2 : K.dec y < K.dec x <;> simp [h, h2]
theorem Ks.swo (K : Ks) : Sort.SWO (ltc K.cf) where
  irrefl x := by rw [K.lt_iff]; simp
  trans x y z h1 h2 := by rw [K.lt_iff] at *; simp only [decide_eq_true_eq] at *; omega
  ntrans x y z h1 h2 := by rw [K.lt_iff] at *; simp only [decide_eq_false_iff_not] at *; omega

/-- The worlds of the sort: t tests more may be made. -/
structure SC (K : Ks) (T0 : Nat) (w0 : World) (b n : Nat) (t : Nat) (d : Array Int) (w : World) : Prop where
  ht : t ≤ T0
  st : St K (2 * (T0 - t)) w
  row : RowA b n n d w
  pl : ∀ i, i < n → K.Pl d[i]!
  chg : Chg (b :: K.L) w0 w

theorem own_set (L : List Nat) (bc : Nat) (hbc : bc ∈ L) (w : World) (a : Addr) (v : Value) (c : Nat) (h : ¬ OwnL L bc w a.block) (ho : OwnL L bc (w.setCell a v) c) : OwnL L bc w c := by
  rcases ho with ho | ⟨ad, n, k, h1, h2⟩
  · exact .inl ho
  · refine .inr ⟨ad, n, k, ?_, h2⟩
    rw [World.cell?_setCell_other _ _ _ _ (by intro e; rw [e] at h; exact h (.inl hbc))] at h1
    exact h1

theorem SC.base (K : Ks) (hK : K.Ok) (T0 : Nat) (w0 : World) (b n : Nat) (hb1 : K.bc < b) (hb2 : b < K.sd) (hN : w0.heap.size = K.N) (t : Nat) : Base K.N b n (OwnL K.L K.bc) (SC K T0 w0 b n t) := by
  have k1 := hK.h1; have k2 := hK.h2; have k3 := hK.h3; have k4 := hK.h4; have k5 := hK.h5; have k6 := hK.h6; have k7 := hK.h7; have k8 := hK.h8; have k9 := hK.h9; have k10 := hK.h10
  have hset : ∀ {d w} (h : SC K T0 w0 b n t d w) (a : Addr) (v : Value), a.block = b → St K (2 * (T0 - t)) (w.setCell a v) := fun h a v ha => by
    refine h.st.keep hK (by rw [nblk_setCell]; exact Nat.le_refl _) (fun c hc _ hm => blk_setCell_other _ _ _ _ ?_) (fun c hc => blk_setCell_other _ _ _ _ ?_)
    · rw [ha]; simp only [List.mem_cons, List.not_mem_nil, or_false] at hm; omega
    · rw [ha]; have := (h.st.st.calls.back hc).1; omega
  refine { env := ⟨fun h => h.row.1, fun h => h.row.cell, fun h i _ => h.row.frz i, fun h k => ⟨h.ht, h.st.drewN k, h.row.drewN k, h.pl, h.chg.drewN k⟩, ?_⟩, alloc := ?_, low := fun h => h.st.st.low, lt := fun h => h.row.lt, set := ?_, ownAlloc := ?_, ownDrew := fun _ _ _ h => h, ownSet := own_set _ _ (by simp), ownLt := ?_, ownBlk := ?_ }
  · intro d w h i j hi hj
    have s1 : SC K T0 w0 b n t (d.setIfInBounds i d[j]!) (w.setCell ⟨b, i, none⟩ (uV d[j]!)) := ⟨h.ht, hset h _ _ rfl, h.row.put i hi _, fun p hp => by
      by_cases e : p = i
      · subst e; simp [Array.getElem!_eq_getD, Array.getD, h.row.1, hp]; simpa [Array.getElem!_eq_getD, Array.getD, h.row.1, hj] using h.pl j hj
      · have := h.pl p hp
        simp only [Array.getElem!_eq_getD, Array.getD, Array.size_setIfInBounds, h.row.1, hp, dite_true, Array.getInternal_eq_getElem] at this ⊢
        rwa [Array.getElem_setIfInBounds_ne _ (by omega)], h.chg.setCell _ _ (fun _ => by simp)⟩
    exact ⟨h.ht, hset s1 _ _ rfl, h.row.swap i j hi hj, fun p hp => by
      have hs := h.row.1
      by_cases e : p = j
      · subst e; rw [Sort.swp_right _ _ _ (by omega)]; exact h.pl i hi
      · by_cases e2 : p = i
        · subst e2; rw [Sort.swp_left _ _ _ (by omega) (by omega)]; exact h.pl j hj
        · rw [Sort.swp_other _ _ _ _ e2 e]; exact h.pl p hp, s1.chg.setCell _ _ (fun _ => by simp)⟩
  · intro d w h o
    exact ⟨h.ht, h.st.alloc hK o, h.row.alloc o, h.pl, h.chg.alloc o⟩
  · intro d w h c hc1 hc2 hno v
    refine ⟨h.ht, h.st.keep hK (by rw [nblk_setCell]; exact Nat.le_refl _) (fun c' hc' _ hm => blk_setCell_other _ _ _ _ (by show c' ≠ c; omega)) (fun c' hc' => blk_setCell_other _ _ _ _ (by show c' ≠ c; intro e; rw [e] at hc'; exact hno (.inr hc'))), h.row.other _ (by exact fun e => hc2 e.symm) v, h.pl, h.chg.setCell _ _ (fun hlt => by simp at hlt; omega)⟩
  · intro d w h o c ho
    refine ho.imp id fun ⟨ad, n', k, h1, h2⟩ => ⟨ad, n', k, ?_, h2⟩
    rw [World.cell?_of_block (w := w) (blk_alloc_lt _ _ _ (Nat.lt_of_lt_of_le hK.bcN h.st.st.low))] at h1
    exact h1
  · intro d w h c ho
    have hl := h.st.st.low
    rcases ho with ho | ho
    · simp only [Ks.L, List.mem_cons, List.not_mem_nil, or_false] at ho; omega
    · exact (h.st.st.calls.back ho).2
  · intro d w h
    exact h.st.st.calls.free (by omega) (by simp only [Ks.L, List.mem_cons, List.not_mem_nil, or_false]; omega)

theorem SC.cmp (K : Ks) (hK : K.Ok) (T0 : Nat) (hT : T0 ≤ 2000000000000) (w0 : World) (b n : Nat) (hb1 : K.bc < b) (hb2 : b < K.sd) (hN : w0.heap.size = K.N) : CmpB K.N b n K.so K.sd (OwnL K.L K.bc) K.cf (SC K T0 w0 b n) where
  base := SC.base K hK T0 w0 b n hb1 hb2 hN
  call t d w h i j hi hj ht := (cmp16_y K hK (2 * (T0 - t)) d[i]! d[j]! w (h.pl i hi) (h.pl j hj) (by omega) h.st).mono fun e w' ⟨h1, h2, h3⟩ => ⟨h1, by
    have B := SC.base K hK T0 w0 b n hb1 hb2 hN t
    have hno := B.ownBlk h
    have hht := h.ht
    refine ⟨by omega, by rw [show 2 * (T0 - (t - 1)) = 2 * (T0 - t) + 2 by omega]; exact h2, h.row.of_block (h3.keep b h.row.lt hno).1, h.pl, ?_⟩
    refine ⟨h3.os.trans h.chg.os, h3.tape.trans h.chg.tape, h3.output.trans h.chg.output, Nat.le_trans h.chg.size h3.size, fun c hc hm => ?_⟩
    rw [List.mem_cons, not_or] at hm
    have hfree : ¬ OwnL K.L K.bc w c := h.st.st.calls.free (by omega) hm.2
    exact (h3.keep c (Nat.lt_of_lt_of_le hc h.chg.size) hfree).1.trans (h.chg.block c hc (by rw [List.mem_cons, not_or]; exact hm)), ⟨fun c hc _ hno => h3.keep c hc hno⟩⟩
  mono h ht := ⟨Nat.le_trans ht h.ht, h.st.mono (by have := h.ht; omega), h.row, h.pl, h.chg⟩

end Go.Proofs.Ybulkdkxi.lawS5598AWhole
