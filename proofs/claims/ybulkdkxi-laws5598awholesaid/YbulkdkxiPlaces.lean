import Derived.Test.YbulkdkxiCmp
/-! lastTwo, sortedPlaces. -/
namespace Go.Proofs.Ybulkdkxi.lawS5598AWhole
open Go.RowKit Go.Deep
open Go.Sort (swp size_swp)
set_option linter.unusedVariables false
set_option linter.unusedSimpArgs false

/-- slices.SortFunc with the law's test. -/
theorem sortF_y (K : Ks) (hK : K.Ok) {cap : Nat} (w : World) (b n : Nat) (d : Array Int) (hn : n ≤ 4096) (hb1 : K.bc < b) (hb2 : b < K.sd) (hN : w.heap.size = K.N) (h : St K 0 w) (hr : RowA b n n d w) (hp : ∀ i, i < n → K.Pl d[i]!) :
    Calls Yba.prog 15 #[.slice (some ⟨b, 0, none⟩) n cap, cmpV K.so K.sd] w fun e w' => ∃ d', e = .returned (.tuple #[]) ∧ Sort.PermIn 0 n d d' ∧ Sort.SortedIn (ltc K.cf) 0 n d' ∧ St K 2000000000000 w' ∧ RowA b n n d' w' ∧ Chg (b :: K.L) w w' := by
  have B := SC.cmp K hK 901230000000 (by omega) w b n hb1 hb2 hN
  refine (sortF_c (cap := cap) (fun t => (B.base t).env) B.ok ?_ (fun t => (B.base t).rnd) K.swo hn 901230000000 d w (by omega) ⟨Nat.le_refl _, by simpa using h, hr, hp, Chg.refl _ _⟩).mono ?_
  · intro tk d w h
    refine ⟨fun q => Priv K.N b (OwnL K.L K.bc) (SC K 901230000000 _ b n q) w.heap.size 3 (fun x => ∃ s : Int, x = .int .i64 s), fun t => (B.base t).priv _ _ _, B.priv _ _ _, fun t => ?_, ((B.base tk).ctr h).2.2, fun t d' w' hT => hT.1⟩
    refine ⟨fun hT => ?_, fun hT => ?_, fun hT s => (B.base t).privSet hT _ ⟨s, rfl⟩⟩
    · obtain ⟨_, _, _, _, x, ⟨s, rfl⟩, h5⟩ := hT
      exact ⟨s, h5.cell (by omega)⟩
    · obtain ⟨_, _, _, _, x, _, h5⟩ := hT
      exact h5.frozen 0
  · rintro e w' ⟨d', rfl, hpm, hs, h2⟩
    exact ⟨d', rfl, hpm, hs, h2.st.mono (by omega), h2.row, h2.chg⟩

set_option maxRecDepth 100000 in
set_option maxHeartbeats 1000000 in
theorem lastTwo_y (v : Value) (hv : v.oneCell' = true) (bc bm bn : Nat) (w : World) (hvv : v = .func (.func 4) #[] #[pt bc, pt bm, pt bn]) : Calls Yba.prog 14 #[v] w fun e w' =>
    e = .returned (.func (.func 22) #[] #[pt (w.heap.size + 3), pt (w.heap.size + 1), pt (w.heap.size + 2), pt w.heap.size, pt (w.heap.size + 4)]) ∧
    w' = ((((w.alloc (.cells #[v] 25)).alloc (.cells #[uV 0, uV 0] 52)).alloc (.cells #[.int .i64 0, .int .i64 0] 53)).alloc (.cells #[.int .i64 0] 3)).alloc (.cells #[.int .i64 0] 3) := by
  subst hvv
  go_enter Yba.func14, Yba.ntmps14
  go_wp2_with fail
  go_ret
  exact ⟨by simp [Nat.add_assoc], rfl⟩

theorem lastTwo_r (bc bm bn : Nat) (w : World) : Calls Yba.prog 14 #[.func (.func 4) #[] #[pt bc, pt bm, pt bn]] w fun e w' =>
    e = .returned (.func (.func 22) #[] #[pt (w.heap.size + 3), pt (w.heap.size + 1), pt (w.heap.size + 2), pt w.heap.size, pt (w.heap.size + 4)]) ∧ Chg [] w w' ∧ w'.heap.size = w.heap.size + 5 ∧
    w'.rowIs w.heap.size 25 1 (fun _ => .func (.func 4) #[] #[pt bc, pt bm, pt bn]) ∧ w'.rowIs (w.heap.size + 1) 52 2 (fun _ => uV 0) ∧ w'.rowIs (w.heap.size + 2) 53 2 (fun _ => .int .i64 0) ∧ w'.rowIs (w.heap.size + 3) 3 1 (fun _ => .int .i64 0) ∧ w'.rowIs (w.heap.size + 4) 3 1 (fun _ => .int .i64 0) := by
  refine (lastTwo_y _ rfl bc bm bn w rfl).mono ?_
  rintro e w' ⟨rfl, rfl⟩
  have one : ∀ (w : World) (v : Value) (t : Nat), (w.alloc (.cells #[v] t)).rowIs w.heap.size t 1 (fun _ => v) := fun w v t => World.rowIs_alloc w #[v] t (fun _ => v) (by intro i hi; simp at hi; subst hi; rfl)
  have two : ∀ (w : World) (v : Value) (t : Nat), (w.alloc (.cells #[v, v] t)).rowIs w.heap.size t 2 (fun _ => v) := fun w v t => World.rowIs_alloc w #[v, v] t (fun _ => v) (by intro i hi; simp at hi; rcases Nat.lt_or_ge i 1 with h | h; (have : i = 0 := by omega); subst this; rfl; (have : i = 1 := by omega); subst this; rfl)
  refine ⟨rfl, (((((Chg.refl [] w).alloc _).alloc _).alloc _).alloc _).alloc _, by simp, (((((one w _ 25).alloc _).alloc _).alloc _).alloc _), ?_, ?_, ?_, ?_⟩
  · have h := ((((two (w.alloc (.cells #[.func (.func 4) #[] #[pt bc, pt bm, pt bn]] 25)) (uV 0) 52).alloc (.cells #[.int .i64 0, .int .i64 0] 53)).alloc (.cells #[.int .i64 0] 3)).alloc (.cells #[.int .i64 0] 3))
    simpa using h
  · have h := (((two ((w.alloc (.cells #[.func (.func 4) #[] #[pt bc, pt bm, pt bn]] 25)).alloc (.cells #[uV 0, uV 0] 52)) (.int .i64 0) 53).alloc (.cells #[.int .i64 0] 3)).alloc (.cells #[.int .i64 0] 3))
    simpa using h
  · have h := ((one (((w.alloc (.cells #[.func (.func 4) #[] #[pt bc, pt bm, pt bn]] 25)).alloc (.cells #[uV 0, uV 0] 52)).alloc (.cells #[.int .i64 0, .int .i64 0] 53)) (.int .i64 0) 3).alloc (.cells #[.int .i64 0] 3))
    simpa using h
  · have h := one ((((w.alloc (.cells #[.func (.func 4) #[] #[pt bc, pt bm, pt bn]] 25)).alloc (.cells #[uV 0, uV 0] 52)).alloc (.cells #[.int .i64 0, .int .i64 0] 53)).alloc (.cells #[.int .i64 0] 3)) (.int .i64 0) 3
    simpa using h

/-- A row of two cells, as its block holds it. -/
theorem row_two {w : World} {b t : Nat} {f : Nat → Value} (h : w.rowIs b t 2 f) : w.heap[b]? = some (.cells #[f 0, f 1] t (0, 0)) := by
  obtain ⟨c, h1, h2, h3⟩ := h
  rw [h1]
  congr 2
  apply Array.ext
  · rw [h2]; rfl
  · intro i hi1 hi2
    have hi : i < 2 := by omega
    have h4 := h3 i hi
    rw [Array.getElem?_eq_getElem hi1] at h4
    injection h4 with h4
    rw [h4]
    rcases Nat.lt_or_ge i 1 with h | h
    · have : i = 0 := by omega
      subst this; rfl
    · have : i = 1 := by omega
      subst this; rfl
theorem info36 : (Yba.prog.info? 36).map (·.size) = some 2 := by kernel_rfl

/-- The blocks as sortedPlaces makes them, from block B on. -/
structure Ks.From (K : Ks) (B : Nat) : Prop where
  sd : K.sd = B
  so : K.so = B + 1
  bd : K.bd = B + 3
  bp : K.bp = B + 4
  be : K.be = B + 5
  bk : K.bk = B + 6
  bo : K.bo = B + 7
  N : K.N = B + 8

/-- What sortedPlaces answers. -/
def PlP (K : Ks) (w : World) (b n : Nat) (d : Array Int) (oo : Bool) (sl : Value) (e : Ending) (w' : World) : Prop :=
  e = .returned (.agg #[sl, K.lastV]) ∧ St K 2000000000000 w' ∧ Chg [b, K.bc] w w' ∧ ∃ d', RowA b n n d' w' ∧ Sort.PermIn 0 n d d' ∧ (oo = true → Sort.SortedIn (ltc K.cf) 0 n d') ∧ (oo = false → d' = d ∧ St K 0 w')

set_option maxRecDepth 100000 in
set_option maxHeartbeats 4000000 in
theorem places_y (K : Ks) (hK : K.Ok) (w : World) (sb b n : Nat) (d : Array Int) (oo : Bool) (f : Nat → Value) (hF : K.From w.heap.size) (hn : n ≤ 4096) (hb1 : K.bc < b) (hb2 : b < w.heap.size) (hsb : b < sb)
    (hm : w.rowIs K.bm 23 1 (fun _ => uV K.mask)) (hng : w.rowIs K.bn 4 1 (fun _ => .bool K.neg)) (hc : w.rowIs K.bc 22 1 (fun _ => .slice none 0 0)) (hs : w.rowIs sb 34 6 f) (hf0 : f 0 = .slice (some ⟨b, 0, none⟩) n n) (hf5 : f 5 = .bool oo) (hr : RowA b n n d w) (hp : ∀ i, i < n → K.Pl d[i]!) :
    Calls Yba.prog 9 #[pt sb, K.decV, oV] w fun e w' => PlP K w b n d oo (.slice (some ⟨b, 0, none⟩) n n) e w' := by
  have mixed := mixedY
  obtain ⟨B, hB⟩ : ∃ B, B = w.heap.size := ⟨_, rfl⟩
  rw [← hB] at hF hb2
  have k1 := hK.h1; have k2 := hK.h2
  have hsbB : sb < B := by rw [hB]; exact hs.lt
  -- the three boxes
  have one : ∀ (w : World) (v : Value) (t : Nat), (w.alloc (.cells #[v] t)).rowIs w.heap.size t 1 (fun _ => v) := fun w v t => World.rowIs_alloc w #[v] t (fun _ => v) (by intro i hi; simp at hi; subst hi; rfl)
  obtain ⟨W1, hW1⟩ : ∃ W, W = ((w.alloc (.cells #[K.decV] 25)).alloc (.cells #[.func (.func 6) #[] #[], .func (.func 8) #[] #[]] 29)).alloc (.cells #[.slice none 0 0, .nilFunc] 36) := ⟨_, rfl⟩
  have ch1 : Chg [] w W1 := by rw [hW1]; exact (((Chg.refl [] w).alloc _).alloc _).alloc _
  have sz1 : W1.heap.size = B + 3 := by rw [hW1]; simp [← hB]
  have rd1 : W1.rowIs B 25 1 (fun _ => K.decV) := by rw [hW1, hB]; exact ((one w _ _).alloc _).alloc _
  have ro1 : W1.rowIs (B + 1) 29 2 (fun i => if i = 0 then .func (.func 6) #[] #[] else .func (.func 8) #[] #[]) := by
    have h := (World.rowIs_alloc (w.alloc (.cells #[K.decV] 25)) #[.func (.func 6) #[] #[], .func (.func 8) #[] #[]] 29 (fun i => if i = 0 then .func (.func 6) #[] #[] else .func (.func 8) #[] #[]) (by
      intro i hi
      simp at hi
      rcases Nat.lt_or_ge i 1 with h | h
      · have : i = 0 := by omega
        subst this; rfl
      · have : i = 1 := by omega
        subst this; rfl)).alloc (.cells #[.slice none 0 0, .nilFunc] 36)
    rw [hW1, hB]
    simpa using h
  have rr1 : W1.rowIs (B + 2) 36 2 (fun i => if i = 0 then .slice none 0 0 else .nilFunc) := by
    have h := World.rowIs_alloc ((w.alloc (.cells #[K.decV] 25)).alloc (.cells #[.func (.func 6) #[] #[], .func (.func 8) #[] #[]] 29)) #[.slice none 0 0, .nilFunc] 36 (fun i => if i = 0 then .slice none 0 0 else .nilFunc) (by
      intro i hi
      simp at hi
      rcases Nat.lt_or_ge i 1 with h | h
      · have : i = 0 := by omega
        subst this; rfl
      · have : i = 1 := by omega
        subst this; rfl)
    rw [hW1, hB]
    simpa using h
  have HW1 := hid_mk hW1
  have hl := hid_mk (lastTwo_r K.bc K.bm K.bn W1)
  rw [sz1] at hl
  have cd1 := rd1.cell (i := 0) (by omega)
  clear one hW1
  have HH := hid_mk (And.intro hm (And.intro hng (And.intro hc (And.intro hs (And.intro hr (And.intro ch1 (And.intro rd1 (And.intro ro1 rr1))))))))
  clear hm hng hc hs hr rd1 ro1 rr1 ch1
  have elast : (Value.func (.func 22) #[] #[pt (B + 3 + 3), pt (B + 3 + 1), pt (B + 3 + 2), pt (B + 3), pt (B + 3 + 4)]) = K.lastV := by
    simp only [Ks.lastV, hF.bk, hF.bp, hF.be, hF.bd, hF.bo]
  rw [elast] at hl
  clear elast
  have hl2 := hid_mk (hl.out.mono (R' := fun e w' => e = .returned (.func (.func 22) #[] #[pt K.bk, pt K.bp, pt K.be, pt K.bd, pt K.bo]) ∧ Chg [] W1 w' ∧ w'.heap.size = B + 3 + 5 ∧
    w'.rowIs (B + 3) 25 1 (fun _ => .func (.func 4) #[] #[pt K.bc, pt K.bm, pt K.bn]) ∧ w'.rowIs (B + 3 + 1) 52 2 (fun _ => uV 0) ∧ w'.rowIs (B + 3 + 2) 53 2 (fun _ => .int .i64 0) ∧ w'.rowIs (B + 3 + 3) 3 1 (fun _ => .int .i64 0) ∧ w'.rowIs (B + 3 + 4) 3 1 (fun _ => .int .i64 0) ∧ (store ⟨B, 0, none⟩ (.func (.func 22) #[] #[pt K.bk, pt K.bp, pt K.be, pt K.bd, pt K.bo])).run Yba.prog w' = .ok () (w'.setCell ⟨B, 0, none⟩ (.func (.func 22) #[] #[pt K.bk, pt K.bp, pt K.be, pt K.bd, pt K.bo])))
    (fun e w' ⟨e1, e2, e3, e4, e5, e6, e7, e8⟩ => ⟨e1, e2, e3, e4, e5, e6, e7, e8, by rw [run_store _ _ _ _ _ rfl, (e2.row HH.out.2.2.2.2.2.2.1 (by simp)).cell (i := 0) (by omega), (e2.row HH.out.2.2.2.2.2.2.1 (by simp)).frozen 0]; rfl⟩))
  clear hl
  have hl := hl2
  clear hl2
  go_enter Yba.func9, Yba.ntmps9
  go_upto_region 1 with fail
  rw [show ((w.alloc (.cells #[K.decV] 25)).alloc (.cells #[.func (.func 6) #[] #[], .func (.func 8) #[] #[]] 29)).alloc (.cells #[.slice none 0 0, .nilFunc] 36) = W1 from HW1.out.symm, ← hB, show B + 1 + 1 = B + 2 from rfl]
  have HBw := hid_mk hB
  clear hB HW1
  -- lastTwo, and the store of what it hands back
  go_cut [] (fun wx => Hid (St K 0 wx ∧ Chg [] w wx ∧ wx.heap.size = B + 8 ∧ wx.rowIs (B + 2) 36 2 (fun i => if i = 0 then .slice none 0 0 else .nilFunc)))
  case first => as_aux_lemma =>
    go_wp2_with (first | (go_at_call 14; refine hl.out.mono ?_; rintro e w2 ⟨rfl, ch2, sz2, r1, r2, r3, r4, r5, cs⟩))
    go_meet
    case rel =>
      obtain ⟨hm, hng, hc, hs, hr, ch1, rd1, ro1, rr1⟩ := HH.out
      have f1 := hF.sd; have f2 := hF.so; have f3 := hF.bd; have f4 := hF.bp; have f5 := hF.be; have f6 := hF.bk; have f7 := hF.bo; have f8 := hF.N
      have ch : Chg [] w w2 := ch1.step ch2 (by simp)
      have hset : ∀ {b t m : Nat} {g : Nat → Value}, w2.rowIs b t m g → b ≠ B → (w2.setCell ⟨B, 0, none⟩ (.func (.func 22) #[] #[pt K.bk, pt K.bp, pt K.be, pt K.bd, pt K.bo])).rowIs b t m g := fun h hne => h.setOther (by exact hne) _
      have hbB := HBw.out
      refine ⟨⟨⟨hset (ch.row hm (by simp)) (by omega), hset (ch.row hng (by simp)) (by omega), ?_, ?_, ?_, ?_, none, 0, 0, [], hset (ch.row hc (by simp)) (by omega), World.ownsRow_nil _ _ _ _, by simp, Nat.le_refl _⟩, 0, 0, fun _ => 0, fun _ => 0, by omega, by omega, ?_, ?_, ?_, ?_, fun i hi => by omega⟩, ch.setCell _ _ (fun hlt => by simp at hlt; omega), ?_, hset (ch2.row rr1 (by simp)) (by omega)⟩
      · have h := r1; rw [show B + 3 = K.bd by omega] at h; exact hset h (by omega)
      · have h := ch2.row ro1 (by simp); rw [show B + 1 = K.so by omega] at h; exact hset h (by omega)
      · rw [f1]; exact row_set1 (ch2.row rd1 (by simp)) (.func (.func 22) #[] #[pt K.bk, pt K.bp, pt K.be, pt K.bd, pt K.bo])
      · rw [nblk_setCell]; omega
      · have h := r4; rw [show B + 3 + 3 = K.bk by omega] at h; exact hset h (by omega)
      · have h := r5; rw [show B + 3 + 4 = K.bo by omega] at h; exact hset h (by omega)
      · have h := r2; rw [show B + 3 + 1 = K.bp by omega] at h; exact hset h (by omega)
      · have h := r3; rw [show B + 3 + 2 = K.be by omega] at h; exact hset h (by omega)
      · rw [nblk_setCell]; omega
  case rest => as_aux_lemma =>
    obtain ⟨st, ch, sz, rr⟩ := hcut
    have HST := hid_mk st
    have HCH := hid_mk ch
    have HRR := hid_mk rr
    have rs := ch.row HH.out.2.2.2.1 (by simp)
    have HRS := hid_mk rs
    have HRW : Hid (RowA b n n d wc) := HH.out.2.2.2.2.1.chg ch (by simp)
    have c5 := rs.cell (i := 5) (by omega)
    have c0 := rs.cell (i := 0) (by omega)
    rw [hf5] at c5
    rw [hf0] at c0
    have f1 := hF.sd; have f2 := hF.so; have f8 := hF.N
    have hsort := hid_mk (sortF_y K hK (cap := n) wc b n d hn hb1 (by omega) (by omega) st HRW.out hp)
    rw [f1, f2] at hsort
    clear st ch rr rs
    clear hl HH cd1
    go_upto_if 12 with fail
    go_cut [] (fun wx => Hid (St K 2000000000000 wx ∧ Chg (b :: K.L) wc wx ∧ ∃ d', RowA b n n d' wx ∧ Sort.PermIn 0 n d d' ∧ (oo = true → Sort.SortedIn (ltc K.cf) 0 n d') ∧ (oo = false → d' = d ∧ St K 0 wx)))
    case first => as_aux_lemma =>
      cases oo with
      | true =>
        go_wp2_with (first | (go_at_call 15; refine hsort.out.mono ?_; rintro e w3 ⟨d', rfl, q1, q2, q3, q4, q5⟩))
        go_meet
        case rel =>
          refine ⟨q3, q5, d', q4, q1, ?_, ?_⟩
          · intro _; exact q2
          · intro h; cases h
      | false =>
        go_wp2_with fail
        go_meet
        case rel =>
          refine ⟨HST.out.mono (by omega), Chg.refl _ _, d, HRW.out, Sort.permIn_refl _ _ _, ?_, ?_⟩
          · intro h; cases h
          · intro _; exact ⟨rfl, HST.out⟩
    case rest => as_aux_lemma =>
      obtain ⟨st3, ch3, d', rw3, pm3, so3, no3⟩ := hcut
      have hKL : ∀ x ∈ b :: K.L, x = b ∨ x = K.bc ∨ K.bp ≤ x := by
        have g7 := hK.h7; have g8 := hK.h8; have g9 := hK.h9
        intro x hx
        simp only [Ks.L, List.mem_cons, List.not_mem_nil, or_false] at hx
        omega
      have hbp := hF.bp
      have hbcb := hb1
      have nin : ∀ c, c ≠ b → c ≠ K.bc → c < K.bp → c ∉ b :: K.L := fun c h1 h2 h3 hm => by have := hKL c hm; omega
      have rs3 := ch3.row HRS.out (nin sb (by omega) (by omega) (by omega))
      have rr3 := ch3.row HRR.out (nin (B + 2) (by omega) (by omega) (by omega))
      clear c0 c5
      have c0 := rs3.cell (i := 0) (by omega)
      rw [hf0] at c0
      have cl : wc.cell? ⟨B, 0, none⟩ = some (.func (.func 22) #[] #[pt K.bk, pt K.bp, pt K.be, pt K.bd, pt K.bo]) := by
        have h := st3.st.last.cell (i := 0) (by omega)
        rw [f1] at h
        exact h
      have q0 := rr3.cell (i := 0) (by omega)
      have g0 := rr3.frozen 0
      have rr4 : (wc.drew.setCell ⟨B + 2, 0, none⟩ (.slice (some ⟨b, 0, none⟩) n n)).rowIs (B + 2) 36 2 _ := rr3.drew.set 0 (.slice (some ⟨b, 0, none⟩) n n)
      have cs : (store ⟨B + 2, 1, none⟩ (.func (.func 22) #[] #[pt K.bk, pt K.bp, pt K.be, pt K.bd, pt K.bo])).run Yba.prog (wc.drew.setCell ⟨B + 2, 0, none⟩ (.slice (some ⟨b, 0, none⟩) n n)) = .ok () ((wc.drew.setCell ⟨B + 2, 0, none⟩ (.slice (some ⟨b, 0, none⟩) n n)).setCell ⟨B + 2, 1, none⟩ (.func (.func 22) #[] #[pt K.bk, pt K.bp, pt K.be, pt K.bd, pt K.bo])) := by
        rw [run_store _ _ _ _ _ rfl, rr4.cell (i := 1) (by omega), rr4.frozen 1]
        rfl
      have cs2 : (store ⟨B + 2, 1, none⟩ (.func (.func 22) #[] #[pt K.bk, pt K.bp, pt K.be, pt K.bd, pt K.bo])).run Yba.prog (wc.setCell ⟨B + 2, 0, none⟩ (.slice (some ⟨b, 0, none⟩) n n)).drew = .ok () ((wc.setCell ⟨B + 2, 0, none⟩ (.slice (some ⟨b, 0, none⟩) n n)).setCell ⟨B + 2, 1, none⟩ (.func (.func 22) #[] #[pt K.bk, pt K.bp, pt K.be, pt K.bd, pt K.bo])).drew := cs
      clear cs
      have HX := hid_mk (And.intro f1 (And.intro f2 (And.intro f8 hbp)))
      have HR3 := hid_mk rr3
      have HN := hid_mk nin
      have H3 := hid_mk (And.intro st3 (And.intro ch3 (And.intro rw3 (And.intro pm3 (And.intro so3 no3)))))
      clear f1 f2 f8 hbp hKL nin rr4 rs3 rr3 st3 ch3 rw3 pm3 so3 no3
      have q1 := HR3.out.cell (i := 1) (by omega)
      have g1 := HR3.out.frozen 1
      simp at q0 q1
      go_upto_region 4 with fail
      go_big_region_o
      clear cs2 q0 q1 g0 g1 c0 cl
      obtain ⟨W4, hW4⟩ : ∃ W, W = ((wc.setCell ⟨B + 2, 0, none⟩ (.slice (some ⟨b, 0, none⟩) n n)).setCell ⟨B + 2, 1, none⟩ (.func (.func 22) #[] #[pt K.bk, pt K.bp, pt K.be, pt K.bd, pt K.bo])).drew := ⟨_, rfl⟩
      rw [← hW4]
      have rr5 : W4.rowIs (B + 2) 36 2 (fun i => if i = 0 then (.slice (some ⟨b, 0, none⟩) n n) else (.func (.func 22) #[] #[pt K.bk, pt K.bp, pt K.be, pt K.bd, pt K.bo])) := by
        rw [hW4]
        exact (((HR3.out.set 0 (.slice (some ⟨b, 0, none⟩) n n)).set 1 (.func (.func 22) #[] #[pt K.bk, pt K.bp, pt K.be, pt K.bd, pt K.bo])).congr (fun i hi => by
          rcases Nat.lt_or_ge i 1 with h | h
          · have : i = 0 := by omega
            subst this; rfl
          · have : i = 1 := by omega
            subst this; rfl)).drew
      have hblk := hid_mk (row_two rr5)
      have HW4 := hid_mk hW4
      clear hW4 rr5
      go_wp2_with fail
      refine bodyPost_ret_by (v := .agg #[(.slice (some ⟨b, 0, none⟩) n n), (.func (.func 22) #[] #[pt K.bk, pt K.bp, pt K.be, pt K.bd, pt K.bo])]) (results_cell_row rfl _ _ (B + 2) 36 _ (0, 0) _ rfl hblk.out Yba.underlying36 rfl info36) rfl ?_
      obtain ⟨st3, ch3, rw3, pm3, so3, no3⟩ := H3.out
      obtain ⟨f1, f2, f8, hbp⟩ := HX.out
      have g7 := hK.h7; have g8 := hK.h8; have g9 := hK.h9; have g10 := hK.h10; have g6 := hK.h6; have g5 := hK.h5; have g4 := hK.h4
      have hlow : ∀ q, St K q wc → St K q W4 := fun q hq => by
        rw [HW4.out]
        have s1 : St K q (wc.setCell ⟨B + 2, 0, none⟩ (.slice (some ⟨b, 0, none⟩) n n)) := hq.keep hK (by rw [nblk_setCell]; exact Nat.le_refl _) (fun c hc _ hm => blk_setCell_other _ _ _ _ (by show c ≠ B + 2; have g3 := hF.bd; simp only [List.mem_cons, List.not_mem_nil, or_false] at hm; omega)) (fun c hb => blk_setCell_other _ _ _ _ (by show c ≠ B + 2; have := (hq.st.calls.back hb).1; omega))
        exact (s1.keep hK (by rw [nblk_setCell (wc.setCell _ _)]; exact Nat.le_refl _) (fun c hc _ hm => blk_setCell_other _ _ _ _ (by show c ≠ B + 2; have g3 := hF.bd; simp only [List.mem_cons, List.not_mem_nil, or_false] at hm; omega)) (fun c hb => blk_setCell_other _ _ _ _ (by show c ≠ B + 2; have := (s1.st.calls.back hb).1; omega))).drewN 1
      have hbB := HBw.out
      refine ⟨rfl, hlow _ st3, ?_, d', ?_, pm3, so3, fun ho => ⟨(no3 ho).1, hlow _ (no3 ho).2⟩⟩
      · rw [HW4.out]
        refine (((Chg.mono (L' := [b, K.bc]) (HCH.out.trans ch3) ?_).setCell _ _ ?_).setCell _ _ ?_).drew
        · intro x hx hlt
          simp only [Ks.L, List.nil_append, List.mem_cons, List.not_mem_nil, or_false] at hx ⊢
          omega
        · intro hlt; simp at hlt; omega
        · intro hlt; simp at hlt; omega
      · rw [HW4.out]
        exact ((rw3.other _ (by show b ≠ B + 2; omega) _).other _ (by show b ≠ B + 2; omega) _).drewN 1


/-- What sortedPlaces answers where there is no slice. -/
def PlN (K : Ks) (w : World) (e : Ending) (w' : World) : Prop :=
  e = .returned (.agg #[.slice none 0 0, K.lastV]) ∧ St K 0 w' ∧ Chg [K.bc] w w'

set_option maxRecDepth 100000 in
set_option maxHeartbeats 4000000 in
theorem places_nil (K : Ks) (hK : K.Ok) (w : World) (sb : Nat) (oo : Bool) (f : Nat → Value) (hF : K.From w.heap.size) (hsb : K.bc < sb)
    (hm : w.rowIs K.bm 23 1 (fun _ => uV K.mask)) (hng : w.rowIs K.bn 4 1 (fun _ => .bool K.neg)) (hc : w.rowIs K.bc 22 1 (fun _ => .slice none 0 0)) (hs : w.rowIs sb 34 6 f) (hf0 : f 0 = .slice none 0 0) (hf5 : f 5 = .bool oo) :
    Calls Yba.prog 9 #[pt sb, K.decV, oV] w fun e w' => PlN K w e w' := by
  have mixed := mixedY
  obtain ⟨B, hB⟩ : ∃ B, B = w.heap.size := ⟨_, rfl⟩
  rw [← hB] at hF
  have k1 := hK.h1; have k2 := hK.h2
  have hsbB : sb < B := by rw [hB]; exact hs.lt
  -- the three boxes
  have one : ∀ (w : World) (v : Value) (t : Nat), (w.alloc (.cells #[v] t)).rowIs w.heap.size t 1 (fun _ => v) := fun w v t => World.rowIs_alloc w #[v] t (fun _ => v) (by intro i hi; simp at hi; subst hi; rfl)
  obtain ⟨W1, hW1⟩ : ∃ W, W = ((w.alloc (.cells #[K.decV] 25)).alloc (.cells #[.func (.func 6) #[] #[], .func (.func 8) #[] #[]] 29)).alloc (.cells #[.slice none 0 0, .nilFunc] 36) := ⟨_, rfl⟩
  have ch1 : Chg [] w W1 := by rw [hW1]; exact (((Chg.refl [] w).alloc _).alloc _).alloc _
  have sz1 : W1.heap.size = B + 3 := by rw [hW1]; simp [← hB]
  have rd1 : W1.rowIs B 25 1 (fun _ => K.decV) := by rw [hW1, hB]; exact ((one w _ _).alloc _).alloc _
  have ro1 : W1.rowIs (B + 1) 29 2 (fun i => if i = 0 then .func (.func 6) #[] #[] else .func (.func 8) #[] #[]) := by
    have h := (World.rowIs_alloc (w.alloc (.cells #[K.decV] 25)) #[.func (.func 6) #[] #[], .func (.func 8) #[] #[]] 29 (fun i => if i = 0 then .func (.func 6) #[] #[] else .func (.func 8) #[] #[]) (by
      intro i hi
      simp at hi
      rcases Nat.lt_or_ge i 1 with h | h
      · have : i = 0 := by omega
        subst this; rfl
      · have : i = 1 := by omega
        subst this; rfl)).alloc (.cells #[.slice none 0 0, .nilFunc] 36)
    rw [hW1, hB]
    simpa using h
  have rr1 : W1.rowIs (B + 2) 36 2 (fun i => if i = 0 then .slice none 0 0 else .nilFunc) := by
    have h := World.rowIs_alloc ((w.alloc (.cells #[K.decV] 25)).alloc (.cells #[.func (.func 6) #[] #[], .func (.func 8) #[] #[]] 29)) #[.slice none 0 0, .nilFunc] 36 (fun i => if i = 0 then .slice none 0 0 else .nilFunc) (by
      intro i hi
      simp at hi
      rcases Nat.lt_or_ge i 1 with h | h
      · have : i = 0 := by omega
        subst this; rfl
      · have : i = 1 := by omega
        subst this; rfl)
    rw [hW1, hB]
    simpa using h
  have HW1 := hid_mk hW1
  have hl := hid_mk (lastTwo_r K.bc K.bm K.bn W1)
  rw [sz1] at hl
  have cd1 := rd1.cell (i := 0) (by omega)
  clear one hW1
  have HH := hid_mk (And.intro hm (And.intro hng (And.intro hc (And.intro hs (And.intro True.intro (And.intro ch1 (And.intro rd1 (And.intro ro1 rr1))))))))
  clear hm hng hc hs rd1 ro1 rr1 ch1
  have elast : (Value.func (.func 22) #[] #[pt (B + 3 + 3), pt (B + 3 + 1), pt (B + 3 + 2), pt (B + 3), pt (B + 3 + 4)]) = K.lastV := by
    simp only [Ks.lastV, hF.bk, hF.bp, hF.be, hF.bd, hF.bo]
  rw [elast] at hl
  clear elast
  have hl2 := hid_mk (hl.out.mono (R' := fun e w' => e = .returned (.func (.func 22) #[] #[pt K.bk, pt K.bp, pt K.be, pt K.bd, pt K.bo]) ∧ Chg [] W1 w' ∧ w'.heap.size = B + 3 + 5 ∧
    w'.rowIs (B + 3) 25 1 (fun _ => .func (.func 4) #[] #[pt K.bc, pt K.bm, pt K.bn]) ∧ w'.rowIs (B + 3 + 1) 52 2 (fun _ => uV 0) ∧ w'.rowIs (B + 3 + 2) 53 2 (fun _ => .int .i64 0) ∧ w'.rowIs (B + 3 + 3) 3 1 (fun _ => .int .i64 0) ∧ w'.rowIs (B + 3 + 4) 3 1 (fun _ => .int .i64 0) ∧ (store ⟨B, 0, none⟩ (.func (.func 22) #[] #[pt K.bk, pt K.bp, pt K.be, pt K.bd, pt K.bo])).run Yba.prog w' = .ok () (w'.setCell ⟨B, 0, none⟩ (.func (.func 22) #[] #[pt K.bk, pt K.bp, pt K.be, pt K.bd, pt K.bo])))
    (fun e w' ⟨e1, e2, e3, e4, e5, e6, e7, e8⟩ => ⟨e1, e2, e3, e4, e5, e6, e7, e8, by rw [run_store _ _ _ _ _ rfl, (e2.row HH.out.2.2.2.2.2.2.1 (by simp)).cell (i := 0) (by omega), (e2.row HH.out.2.2.2.2.2.2.1 (by simp)).frozen 0]; rfl⟩))
  clear hl
  have hl := hl2
  clear hl2
  go_enter Yba.func9, Yba.ntmps9
  go_upto_region 1 with fail
  rw [show ((w.alloc (.cells #[K.decV] 25)).alloc (.cells #[.func (.func 6) #[] #[], .func (.func 8) #[] #[]] 29)).alloc (.cells #[.slice none 0 0, .nilFunc] 36) = W1 from HW1.out.symm, ← hB, show B + 1 + 1 = B + 2 from rfl]
  have HBw := hid_mk hB
  clear hB HW1
  -- lastTwo, and the store of what it hands back
  go_cut [] (fun wx => Hid (St K 0 wx ∧ Chg [] w wx ∧ wx.heap.size = B + 8 ∧ wx.rowIs (B + 2) 36 2 (fun i => if i = 0 then .slice none 0 0 else .nilFunc)))
  case first => as_aux_lemma =>
    go_wp2_with (first | (go_at_call 14; refine hl.out.mono ?_; rintro e w2 ⟨rfl, ch2, sz2, r1, r2, r3, r4, r5, cs⟩))
    go_meet
    case rel =>
      obtain ⟨hm, hng, hc, hs, hr, ch1, rd1, ro1, rr1⟩ := HH.out
      have f1 := hF.sd; have f2 := hF.so; have f3 := hF.bd; have f4 := hF.bp; have f5 := hF.be; have f6 := hF.bk; have f7 := hF.bo; have f8 := hF.N
      have ch : Chg [] w w2 := ch1.step ch2 (by simp)
      have hset : ∀ {b t m : Nat} {g : Nat → Value}, w2.rowIs b t m g → b ≠ B → (w2.setCell ⟨B, 0, none⟩ (.func (.func 22) #[] #[pt K.bk, pt K.bp, pt K.be, pt K.bd, pt K.bo])).rowIs b t m g := fun h hne => h.setOther (by exact hne) _
      have hbB := HBw.out
      refine ⟨⟨⟨hset (ch.row hm (by simp)) (by omega), hset (ch.row hng (by simp)) (by omega), ?_, ?_, ?_, ?_, none, 0, 0, [], hset (ch.row hc (by simp)) (by omega), World.ownsRow_nil _ _ _ _, by simp, Nat.le_refl _⟩, 0, 0, fun _ => 0, fun _ => 0, by omega, by omega, ?_, ?_, ?_, ?_, fun i hi => by omega⟩, ch.setCell _ _ (fun hlt => by simp at hlt; omega), ?_, hset (ch2.row rr1 (by simp)) (by omega)⟩
      · have h := r1; rw [show B + 3 = K.bd by omega] at h; exact hset h (by omega)
      · have h := ch2.row ro1 (by simp); rw [show B + 1 = K.so by omega] at h; exact hset h (by omega)
      · rw [f1]; exact row_set1 (ch2.row rd1 (by simp)) (.func (.func 22) #[] #[pt K.bk, pt K.bp, pt K.be, pt K.bd, pt K.bo])
      · rw [nblk_setCell]; omega
      · have h := r4; rw [show B + 3 + 3 = K.bk by omega] at h; exact hset h (by omega)
      · have h := r5; rw [show B + 3 + 4 = K.bo by omega] at h; exact hset h (by omega)
      · have h := r2; rw [show B + 3 + 1 = K.bp by omega] at h; exact hset h (by omega)
      · have h := r3; rw [show B + 3 + 2 = K.be by omega] at h; exact hset h (by omega)
      · rw [nblk_setCell]; omega
  case rest => as_aux_lemma =>
    obtain ⟨st, ch, sz, rr⟩ := hcut
    have HST := hid_mk st
    have HCH := hid_mk ch
    have HRR := hid_mk rr
    have rs := ch.row HH.out.2.2.2.1 (by simp)
    have HRS := hid_mk rs
    have c5 := rs.cell (i := 5) (by omega)
    have c0 := rs.cell (i := 0) (by omega)
    rw [hf5] at c5
    rw [hf0] at c0
    have f1 := hF.sd; have f2 := hF.so; have f8 := hF.N
    have hsort := hid_mk (sortF_nil_c K.so K.sd wc)
    rw [f1, f2] at hsort
    clear st ch rr rs
    clear hl HH cd1
    go_upto_if 12 with fail
    obtain ⟨Wc, hWc⟩ : ∃ W, W = wc := ⟨_, rfl⟩
    have HWc := hid_mk hWc
    clear hWc
    go_cut [] (fun wx => Hid (wx = Wc))
    case first => as_aux_lemma =>
      cases oo with
      | true =>
        go_wp2_with (first | (go_at_call 15; refine hsort.out.mono ?_; rintro e w3 ⟨rfl, rfl⟩))
        go_meet
        case rel => exact HWc.out.symm
      | false =>
        go_wp2_with fail
        go_meet
        case rel => exact HWc.out.symm
    case rest => as_aux_lemma =>
      have ew : wc = _ := hcut.out.trans HWc.out
      have hbp := hF.bp
      have st3 := HST.out
      have rs3 := HRS.out
      have rr3 := HRR.out
      rw [← ew] at st3 rs3 rr3
      have HEW := hid_mk ew
      clear ew hcut HWc
      clear c0 c5
      have c0 := rs3.cell (i := 0) (by omega)
      rw [hf0] at c0
      have cl : wc.cell? ⟨B, 0, none⟩ = some (.func (.func 22) #[] #[pt K.bk, pt K.bp, pt K.be, pt K.bd, pt K.bo]) := by
        have h := st3.st.last.cell (i := 0) (by omega)
        rw [f1] at h
        exact h
      have q0 := rr3.cell (i := 0) (by omega)
      have g0 := rr3.frozen 0
      have rr4 : (wc.drew.setCell ⟨B + 2, 0, none⟩ (.slice none 0 0)).rowIs (B + 2) 36 2 _ := rr3.drew.set 0 (.slice none 0 0)
      have cs : (store ⟨B + 2, 1, none⟩ (.func (.func 22) #[] #[pt K.bk, pt K.bp, pt K.be, pt K.bd, pt K.bo])).run Yba.prog (wc.drew.setCell ⟨B + 2, 0, none⟩ (.slice none 0 0)) = .ok () ((wc.drew.setCell ⟨B + 2, 0, none⟩ (.slice none 0 0)).setCell ⟨B + 2, 1, none⟩ (.func (.func 22) #[] #[pt K.bk, pt K.bp, pt K.be, pt K.bd, pt K.bo])) := by
        rw [run_store _ _ _ _ _ rfl, rr4.cell (i := 1) (by omega), rr4.frozen 1]
        rfl
      have cs2 : (store ⟨B + 2, 1, none⟩ (.func (.func 22) #[] #[pt K.bk, pt K.bp, pt K.be, pt K.bd, pt K.bo])).run Yba.prog (wc.setCell ⟨B + 2, 0, none⟩ (.slice none 0 0)).drew = .ok () ((wc.setCell ⟨B + 2, 0, none⟩ (.slice none 0 0)).setCell ⟨B + 2, 1, none⟩ (.func (.func 22) #[] #[pt K.bk, pt K.bp, pt K.be, pt K.bd, pt K.bo])).drew := cs
      clear cs
      have HX := hid_mk (And.intro f1 (And.intro f2 (And.intro f8 hbp)))
      have HR3 := hid_mk rr3
      have H3 := hid_mk st3
      clear f1 f2 f8 hbp rr4 rs3 rr3 st3
      have q1 := HR3.out.cell (i := 1) (by omega)
      have g1 := HR3.out.frozen 1
      simp at q0 q1
      go_upto_region 4 with fail
      go_big_region_o
      clear cs2 q0 q1 g0 g1 c0 cl
      obtain ⟨W4, hW4⟩ : ∃ W, W = ((wc.setCell ⟨B + 2, 0, none⟩ (.slice none 0 0)).setCell ⟨B + 2, 1, none⟩ (.func (.func 22) #[] #[pt K.bk, pt K.bp, pt K.be, pt K.bd, pt K.bo])).drew := ⟨_, rfl⟩
      rw [← hW4]
      have rr5 : W4.rowIs (B + 2) 36 2 (fun i => if i = 0 then (.slice none 0 0) else (.func (.func 22) #[] #[pt K.bk, pt K.bp, pt K.be, pt K.bd, pt K.bo])) := by
        rw [hW4]
        exact (((HR3.out.set 0 (.slice none 0 0)).set 1 (.func (.func 22) #[] #[pt K.bk, pt K.bp, pt K.be, pt K.bd, pt K.bo])).congr (fun i hi => by
          rcases Nat.lt_or_ge i 1 with h | h
          · have : i = 0 := by omega
            subst this; rfl
          · have : i = 1 := by omega
            subst this; rfl)).drew
      have hblk := hid_mk (row_two rr5)
      have HW4 := hid_mk hW4
      clear hW4 rr5
      go_wp2_with fail
      refine bodyPost_ret_by (v := .agg #[(.slice none 0 0), (.func (.func 22) #[] #[pt K.bk, pt K.bp, pt K.be, pt K.bd, pt K.bo])]) (results_cell_row rfl _ _ (B + 2) 36 _ (0, 0) _ rfl hblk.out Yba.underlying36 rfl info36) rfl ?_
      have st3 := H3.out
      obtain ⟨f1, f2, f8, hbp⟩ := HX.out
      have g7 := hK.h7; have g8 := hK.h8; have g9 := hK.h9; have g10 := hK.h10; have g6 := hK.h6; have g5 := hK.h5; have g4 := hK.h4
      have hlow : ∀ q, St K q wc → St K q W4 := fun q hq => by
        rw [HW4.out]
        have s1 : St K q (wc.setCell ⟨B + 2, 0, none⟩ (.slice none 0 0)) := hq.keep hK (by rw [nblk_setCell]; exact Nat.le_refl _) (fun c hc _ hm => blk_setCell_other _ _ _ _ (by show c ≠ B + 2; have g3 := hF.bd; simp only [List.mem_cons, List.not_mem_nil, or_false] at hm; omega)) (fun c hb => blk_setCell_other _ _ _ _ (by show c ≠ B + 2; have := (hq.st.calls.back hb).1; omega))
        exact (s1.keep hK (by rw [nblk_setCell (wc.setCell _ _)]; exact Nat.le_refl _) (fun c hc _ hm => blk_setCell_other _ _ _ _ (by show c ≠ B + 2; have g3 := hF.bd; simp only [List.mem_cons, List.not_mem_nil, or_false] at hm; omega)) (fun c hb => blk_setCell_other _ _ _ _ (by show c ≠ B + 2; have := (s1.st.calls.back hb).1; omega))).drewN 1
      have hbB := HBw.out
      refine ⟨rfl, hlow _ st3, ?_⟩
      rw [HW4.out]
      refine ((Chg.setCell (L := [K.bc]) ?_ _ _ ?_).setCell _ _ ?_).drew
      · rw [HEW.out]; exact HCH.out.mono (by simp)
      · intro hlt; simp at hlt; omega
      · intro hlt; simp at hlt; omega

end Go.Proofs.Ybulkdkxi.lawS5598AWhole
