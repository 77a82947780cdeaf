import Derived.Test.YbulkdkxiState
/-! lastTwo's function: it answers what decode answers. -/
namespace Go.Proofs.Ybulkdkxi.lawS5598AWhole
open Go.RowKit Go.Deep
set_option linter.unusedVariables false
set_option linter.unusedSimpArgs false

/-- The variables that lastTwo keeps. -/
def Cache (K : Ks) (w : World) : Prop :=
  ∃ (k o : Nat) (P En : Nat → Int), k ≤ 2 ∧ o ≤ 1 ∧ w.rowIs K.bk 3 1 (fun _ => .int .i64 k) ∧ w.rowIs K.bo 3 1 (fun _ => .int .i64 o) ∧
    w.rowIs K.bp 52 2 (fun i => uV (P i)) ∧ w.rowIs K.be 53 2 (fun i => .int .i64 (En i)) ∧ ∀ i, i < k → En i = K.dec (P i)

/-- The state but for lastTwo's variables: at most q places have been decoded. -/
structure St0 (K : Ks) (q : Nat) (w : World) : Prop where
  mask : w.rowIs K.bm 23 1 (fun _ => uV K.mask)
  neg : w.rowIs K.bn 4 1 (fun _ => .bool K.neg)
  dec : w.rowIs K.bd 25 1 (fun _ => K.decV)
  ord : w.rowIs K.so 29 2 (fun i => if i = 0 then .func (.func 6) #[] #[] else .func (.func 8) #[] #[])
  last : w.rowIs K.sd 25 1 (fun _ => K.lastV)
  low : K.N ≤ w.heap.size
  calls : Cal K q w
/-- The state. -/
structure St (K : Ks) (q : Nat) (w : World) : Prop where
  st : St0 K q w
  cache : Cache K w

abbrev Ks.L (K : Ks) : List Nat := [K.bc, K.bk, K.bp, K.be, K.bo]

theorem Cal.mono {K : Ks} {q q' : Nat} {w : World} (h : Cal K q w) (hq : q ≤ q') : Cal K q' w := by
  obtain ⟨a, n, c, xs, h1, h2, h3, h4⟩ := h
  exact ⟨a, n, c, xs, h1, h2, h3, by omega⟩
theorem St0.mono {K : Ks} {q q' : Nat} {w : World} (h : St0 K q w) (hq : q ≤ q') : St0 K q' w := { h with calls := h.calls.mono hq }
theorem St.mono {K : Ks} {q q' : Nat} {w : World} (h : St K q w) (hq : q ≤ q') : St K q' w := ⟨h.st.mono hq, h.cache⟩

/-- What is below N and not of the state is nobody's. -/
theorem Cal.free {K : Ks} {q : Nat} {w : World} (h : Cal K q w) {L : List Nat} {b : Nat} (hb : b < K.N) (hL : b ∉ L) : ¬ OwnL L K.bc w b := by
  rintro (ho | ho)
  · exact hL ho
  · have := (h.back ho).1; omega

/-- 'calls' stays where another block is written. -/
theorem Cal.set {K : Ks} (hK : K.bc < K.N) {q : Nat} {w : World} (h : Cal K q w) (a : Addr) (v : Value) (h1 : a.block ≠ K.bc) (h2 : a.block < K.N) : Cal K q (w.setCell a v) := by
  obtain ⟨a', n, c, xs, r1, r2, r3, r4⟩ := h
  refine ⟨a', n, c, xs, r1.setOther (fun e => h1 e.symm) v, ?_, r3, r4⟩
  refine ((Chg.refl [a.block] w).setCell a v (fun _ => by simp)).own r2 (fun g hg hm => ?_)
  simp at hm
  subst hm
  obtain ⟨_, h | ⟨g', cap, cur, hv, hb, _⟩⟩ := r2
  · rw [h.1] at hg; simp [Value.ownBlock] at hg
  · rw [hv] at hg
    simp [Value.ownBlock] at hg
    omega

theorem St0.set {K : Ks} (hK : K.Ok) {q : Nat} {w : World} (h : St0 K q w) (a : Addr) (v : Value) (h1 : K.bd < a.block) (h2 : a.block < K.N) : St0 K q (w.setCell a v) := by
  have k1 := hK.h1; have k2 := hK.h2; have k3 := hK.h3; have k4 := hK.h4; have k5 := hK.h5; have k6 := hK.h6
  exact ⟨h.mask.setOther (by omega) v, h.neg.setOther (by omega) v, h.dec.setOther (by omega) v, h.ord.setOther (by omega) v, h.last.setOther (by omega) v, by rw [nblk_setCell]; exact h.low, h.calls.set (by omega) a v (by omega) h2⟩
theorem St0.drewN {K : Ks} {q : Nat} {w : World} (h : St0 K q w) (k : Nat) : St0 K q (w.drewN k) := ⟨h.mask, h.neg, h.dec, h.ord, h.last, h.low, h.calls⟩

/-- One entry is written: at j the place x and what it decodes to. -/
theorem Cache.put {K : Ks} (hK : K.Ok) {w : World} {j k' o' : Nat} {P En : Nat → Int} {x : Int} (hj : j < 2) (hk : k' ≤ 2) (ho : o' ≤ 1)
    (rk : w.rowIs K.bk 3 1 (fun _ => .int .i64 k')) (ro : w.rowIs K.bo 3 1 (fun _ => .int .i64 o')) (rp : w.rowIs K.bp 52 2 (fun i => if i = j then uV x else uV (P i))) (re : w.rowIs K.be 53 2 (fun i => if i = j then .int .i64 (K.dec x) else .int .i64 (En i)))
    (hen : ∀ i, i < k' → i ≠ j → En i = K.dec (P i)) : Cache K w :=
  ⟨k', o', fun i => if i = j then x else P i, fun i => if i = j then K.dec x else En i, hk, ho, rk, ro, rp.congr fun i _ => by by_cases e : i = j <;> simp [e], re.congr fun i _ => by by_cases e : i = j <;> simp [e], fun i hi => by
    by_cases e : i = j
    · simp [e]
    · simp only [if_neg e]; exact hen i hi e⟩

set_option maxRecDepth 100000 in
set_option maxHeartbeats 4000000 in
theorem last_y (K : Ks) (hK : K.Ok) (q : Nat) (x : Int) (w : World) (hx : K.Pl x) (hq : q ≤ 10000000000000) (h : St K q w) :
    Calls Yba.prog 22 #[uV x, pt K.bk, pt K.bp, pt K.be, pt K.bd, pt K.bo] w fun e w' => e = .returned (.int .i64 (K.dec x)) ∧ St K (q + 1) w' ∧ Moved K.L K.bc w w' := by
  have mixed := mixedY
  obtain ⟨k, o, P, En, hk, ho, rk, ro, rp, re, hen⟩ := h.cache
  have k1 := hK.h1; have k2 := hK.h2; have k3 := hK.h3; have k4 := hK.h4; have k5 := hK.h5; have k6 := hK.h6; have k7 := hK.h7; have k8 := hK.h8; have k9 := hK.h9; have k10 := hK.h10
  have HK := hid_mk hK
  have HS := hid_mk h
  have hdc := hid_mk (decode_y K hK q x w hx hq h.st.low h.st.calls h.st.mask h.st.neg)
  have ck := rk.cell (i := 0) (by omega)
  have HRK := hid_mk rk
  have HRO := hid_mk ro
  have HRP := hid_mk rp
  have HRE := hid_mk re
  have HEN := hid_mk hen
  clear h hen rp re rk ro hK
  go_enter Yba.func22, Yba.ntmps22
  go_wp2_with fail
  go_loopg [11] k (fun gk s wr => ∃ t : Nat, s = .int .i64 t ∧ t ≤ k ∧ k - t ≤ gk ∧ wr = w)
  case atStart => exact ⟨0, rfl, Nat.zero_le _, by omega, rfl⟩
  case round =>
    obtain ⟨t, rfl, htk, hgk, rfl⟩ := hrel
    by_cases hlt : t < k
    · have ht2 : t < 2 := by omega
      have cp := HRP.out.cell ht2
      have ce := HRE.out.cell ht2
      have he := HEN.out t hlt
      have htz : (t : Int) < (k : Int) := by omega
      have htz2 : (t : Int) < 2 := by omega
      obtain ⟨y, hy⟩ : ∃ y, y = P t := ⟨_, rfl⟩
      obtain ⟨z, hz⟩ : ∃ z, z = En t := ⟨_, rfl⟩
      rw [← hy] at cp he
      rw [← hz] at ce he
      have HZ := hid_mk he
      clear he hy hz
      by_cases hyx : y = x
      · subst hyx
        go_wp2_with fail
        go_ret
        exact ⟨by rw [← HZ.out]; rfl, HS.out.mono (by omega), Moved.refl _ _ _⟩
      · go_wp2_with fail
        go_roundg (k - (t + 1))
        case measure => omega
        case rel => exact ⟨t + 1, by go_num, by omega, Nat.le_refl _, rfl⟩
    · obtain rfl : t = k := by omega
      clear hgk htk
      have cd := HS.out.st.dec.cell (i := 0) (by omega)
      go_upto_region 8 with (first | (go_at_call 4; refine hdc.out.mono ?_; rintro e w1 ⟨rfl, hcal, hmv⟩))
      have hrw : ∀ {b ty m : Nat} {f : Nat → Value}, wr.rowIs b ty m f → b < K.N → b ≠ K.bc → w1.rowIs b ty m f := fun hr h1 h2 => hmv.row hr (HS.out.st.calls.free h1 (by simpa using h2))
      have st1 : Hid (St0 K (q + 1) w1) := ⟨hrw HS.out.st.mask (by omega) (by omega), hrw HS.out.st.neg (by omega) (by omega), hrw HS.out.st.dec (by omega) (by omega), hrw HS.out.st.ord (by omega) (by omega), hrw HS.out.st.last (by omega) (by omega), Nat.le_trans HS.out.st.low hmv.size, hcal⟩
      have rk1 := hid_mk (hrw HRK.out (by omega) (by omega))
      have ro1 := hid_mk (hrw HRO.out (by omega) (by omega))
      have rp1 := hid_mk (hrw HRP.out (by omega) (by omega))
      have re1 := hid_mk (hrw HRE.out (by omega) (by omega))
      have HMV := hid_mk (hmv.wide (L' := K.L) (by simp))
      clear hrw hmv hcal HRK HRO HRP HRE ck cd HS hdc
      obtain ⟨z, hz⟩ : ∃ z, z = K.dec x := ⟨_, rfl⟩
      rw [← hz]
      have HZ := hid_mk hz
      clear hz
      by_cases hk2 : t < 2
      · have hkz : (t : Int) < 2 := by omega
        have ck := rk1.out.cell (i := 0) (by omega)
        have co := ro1.out.cell (i := 0) (by omega)
        have cp := rp1.out.cell (i := t) (by omega)
        have ce := re1.out.cell (i := t) (by omega)
        have fp := rp1.out.frozen t
        have fe := re1.out.frozen t
        have ce2 := (re1.out.setOther (a := ⟨K.bp, t, none⟩) (by show K.be ≠ K.bp; omega) (uV x)).cell (i := t) (by omega)
        have cp2 := (rp1.out.setOther (a := ⟨K.be, t, none⟩) (by show K.bp ≠ K.be; omega) (.int .i64 z)).cell (i := t) (by omega)
        obtain ⟨W2, hW2⟩ : ∃ W, W = ((w1.setCell ⟨K.bp, t, none⟩ (uV x)).setCell ⟨K.be, t, none⟩ (.int .i64 z)).drew := ⟨_, rfl⟩
        have rk2 : Hid (W2.rowIs K.bk 3 1 (fun _ => .int .i64 t)) := by
          show World.rowIs _ _ _ _ _
          rw [hW2]
          exact ((rk1.out.setOther (a := ⟨K.bp, t, none⟩) (by show K.bk ≠ K.bp; omega) _).setOther (a := ⟨K.be, t, none⟩) (by show K.bk ≠ K.be; omega) _).drew
        have ro2 : Hid (W2.rowIs K.bo 3 1 (fun _ => .int .i64 o)) := by
          show World.rowIs _ _ _ _ _
          rw [hW2]
          exact ((ro1.out.setOther (a := ⟨K.bp, t, none⟩) (by show K.bo ≠ K.bp; omega) _).setOther (a := ⟨K.be, t, none⟩) (by show K.bo ≠ K.be; omega) _).drew
        have rp2 : Hid (W2.rowIs K.bp 52 2 (fun i => if i = t then uV x else uV (P i))) := by
          show World.rowIs _ _ _ _ _
          rw [hW2]
          exact ((rp1.out.set t _).setOther (a := ⟨K.be, t, none⟩) (by show K.bp ≠ K.be; omega) _).drew
        have re2 : Hid (W2.rowIs K.be 53 2 (fun i => if i = t then .int .i64 z else .int .i64 (En i))) := by
          show World.rowIs _ _ _ _ _
          rw [hW2]
          exact ((re1.out.setOther (a := ⟨K.bp, t, none⟩) (by show K.be ≠ K.bp; omega) _).set t _).drew
        have st2 : Hid (St0 K (q + 1) W2) := by
          show St0 _ _ _
          rw [hW2]
          exact ((st1.out.set HK.out _ _ (by show K.bd < K.bp; omega) (by show K.bp < K.N; omega)).set HK.out _ _ (by show K.bd < K.be; omega) (by show K.be < K.N; omega)).drewN 1
        have mv2 : Hid (Moved K.L K.bc wr W2) := by
          show Moved _ _ _ _
          rw [hW2]
          exact ((HMV.out.trans (Moved.store _ _ _ (by show K.bp ∈ K.L; simp) (by show K.bp ≠ K.bc; omega))).trans (Moved.store _ _ _ (by show K.be ∈ K.L; simp) (by show K.be ≠ K.bc; omega))).drewN 1
        have HW := hid_mk hW2
        clear hW2
        go_upto_region 9 with fail
        go_big_region_o
        rw [show ((w1.setCell ⟨K.bp, t, none⟩ (uV x)).setCell ⟨K.be, t, none⟩ (.int .i64 z)).drew = W2 from HW.out.symm]
        clear ck co cp ce fp fe ce2 cp2
        have ck := rk2.out.cell (i := 0) (by omega)
        have fk := rk2.out.frozen 0
        have co := ro2.out.cell (i := 0) (by omega)
        have fo := ro2.out.frozen 0
        go_wp2_with fail
        go_ret
        refine ⟨by rw [← HZ.out]; rfl, ⟨st2.out.set HK.out _ _ (by show K.bd < K.bk; omega) (by show K.bk < K.N; omega), ?_⟩, mv2.out.trans (Moved.store _ _ _ (by show K.bk ∈ K.L; simp) (by show K.bk ≠ K.bc; omega))⟩
        refine Cache.put (k' := t + 1) (o' := o) (j := t) (x := x) HK.out hk2 (by omega) ho ?_ (ro2.out.setOther (by show K.bo ≠ K.bk; omega) _) (rp2.out.setOther (by show K.bp ≠ K.bk; omega) _) ?_ (fun i hi hne => HEN.out i (by omega))
        · exact (row_set1 rk2.out _).congr fun i _ => by go_num
        · rw [← HZ.out]; exact re2.out.setOther (by show K.be ≠ K.bk; omega) _
      · obtain rfl : t = 2 := by omega
        have hoz : (o : Int) < 2 := by omega
        have ck := rk1.out.cell (i := 0) (by omega)
        have co := ro1.out.cell (i := 0) (by omega)
        have cp := rp1.out.cell (i := o) (by omega)
        have ce := re1.out.cell (i := o) (by omega)
        have fp := rp1.out.frozen o
        have fe := re1.out.frozen o
        have ce2 := (re1.out.setOther (a := ⟨K.bp, o, none⟩) (by show K.be ≠ K.bp; omega) (uV x)).cell (i := o) (by omega)
        have cp2 := (rp1.out.setOther (a := ⟨K.be, o, none⟩) (by show K.bp ≠ K.be; omega) (.int .i64 z)).cell (i := o) (by omega)
        obtain ⟨W2, hW2⟩ : ∃ W, W = ((w1.setCell ⟨K.bp, o, none⟩ (uV x)).setCell ⟨K.be, o, none⟩ (.int .i64 z)).drew := ⟨_, rfl⟩
        have rk2 : Hid (W2.rowIs K.bk 3 1 (fun _ => .int .i64 ((2 : Nat) : Int))) := by
          show World.rowIs _ _ _ _ _
          rw [hW2]
          exact ((rk1.out.setOther (a := ⟨K.bp, o, none⟩) (by show K.bk ≠ K.bp; omega) _).setOther (a := ⟨K.be, o, none⟩) (by show K.bk ≠ K.be; omega) _).drew
        have ro2 : Hid (W2.rowIs K.bo 3 1 (fun _ => .int .i64 o)) := by
          show World.rowIs _ _ _ _ _
          rw [hW2]
          exact ((ro1.out.setOther (a := ⟨K.bp, o, none⟩) (by show K.bo ≠ K.bp; omega) _).setOther (a := ⟨K.be, o, none⟩) (by show K.bo ≠ K.be; omega) _).drew
        have rp2 : Hid (W2.rowIs K.bp 52 2 (fun i => if i = o then uV x else uV (P i))) := by
          show World.rowIs _ _ _ _ _
          rw [hW2]
          exact ((rp1.out.set o _).setOther (a := ⟨K.be, o, none⟩) (by show K.bp ≠ K.be; omega) _).drew
        have re2 : Hid (W2.rowIs K.be 53 2 (fun i => if i = o then .int .i64 z else .int .i64 (En i))) := by
          show World.rowIs _ _ _ _ _
          rw [hW2]
          exact ((re1.out.setOther (a := ⟨K.bp, o, none⟩) (by show K.be ≠ K.bp; omega) _).set o _).drew
        have st2 : Hid (St0 K (q + 1) W2) := by
          show St0 _ _ _
          rw [hW2]
          exact ((st1.out.set HK.out _ _ (by show K.bd < K.bp; omega) (by show K.bp < K.N; omega)).set HK.out _ _ (by show K.bd < K.be; omega) (by show K.be < K.N; omega)).drewN 1
        have mv2 : Hid (Moved K.L K.bc wr W2) := by
          show Moved _ _ _ _
          rw [hW2]
          exact ((HMV.out.trans (Moved.store _ _ _ (by show K.bp ∈ K.L; simp) (by show K.bp ≠ K.bc; omega))).trans (Moved.store _ _ _ (by show K.be ∈ K.L; simp) (by show K.be ≠ K.bc; omega))).drewN 1
        have HW := hid_mk hW2
        clear hW2
        go_upto_region 11 with fail
        go_big_region_o
        rw [show ((w1.setCell ⟨K.bp, o, none⟩ (uV x)).setCell ⟨K.be, o, none⟩ (.int .i64 z)).drew = W2 from HW.out.symm]
        clear ck co cp ce fp fe ce2 cp2
        have ck := rk2.out.cell (i := 0) (by omega)
        have fk := rk2.out.frozen 0
        have co := ro2.out.cell (i := 0) (by omega)
        have fo := ro2.out.frozen 0
        go_wp2_with fail
        go_ret
        refine ⟨by rw [← HZ.out]; rfl, ⟨st2.out.set HK.out _ _ (by show K.bd < K.bo; omega) (by show K.bo < K.N; omega), ?_⟩, mv2.out.trans (Moved.store _ _ _ (by show K.bo ∈ K.L; simp) (by show K.bo ≠ K.bc; omega))⟩
        refine Cache.put (k' := 2) (o' := 1 - o) (j := o) (x := x) HK.out (by omega) (by omega) (by omega) (rk2.out.setOther (a := ⟨K.bo, 0, none⟩) (by show K.bk ≠ K.bo; omega) _) ?_ (rp2.out.setOther (by show K.bp ≠ K.bo; omega) _) ?_ (fun i hi hne => HEN.out i hi)
        · exact (row_set1 ro2.out _).congr fun i _ => by congr 1; omega
        · rw [← HZ.out]; exact re2.out.setOther (by show K.be ≠ K.bo; omega) _

end Go.Proofs.Ybulkdkxi.lawS5598AWhole
