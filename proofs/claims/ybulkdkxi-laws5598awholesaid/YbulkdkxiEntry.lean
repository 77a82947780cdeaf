import Derived.Test.YbulkdkxiSegA
/-! The law, from its head on. -/
namespace Go.Proofs.Ybulkdkxi.lawS5598AWhole
open Go.RowKit Go.Deep
set_option linter.unusedVariables false
set_option linter.unusedSimpArgs false

theorem row_one (w : World) (v : Value) (t : Nat) : (w.alloc (.cells #[v] t)).rowIs w.heap.size t 1 (fun _ => v) := World.rowIs_alloc w #[v] t (fun _ => v) (by intro i hi; simp at hi; subst hi; rfl)
theorem row_two' (w : World) (u v : Value) (t : Nat) : (w.alloc (.cells #[u, v] t)).rowIs w.heap.size t 2 (fun i => if i = 0 then u else v) := World.rowIs_alloc w #[u, v] t _ (by
  intro i hi
  simp at hi
  rcases Nat.lt_or_ge i 1 with h | h
  · have : i = 0 := by omega
    subst this; rfl
  · have : i = 1 := by omega
    subst this; rfl)

/-- The law's state, by the block B of its first box and the block X that sortedPlaces begins with. -/
def mkK (B X : Nat) (mask : Int) (neg : Bool) (Pl : Int → Prop) : Ks := ⟨B, B + 1, B + 2, X, X + 1, X + 3, X + 4, X + 5, X + 6, X + 7, X + 8, mask, neg, Pl⟩
theorem mkK_ok (B X : Nat) (mask : Int) (neg : Bool) (Pl : Int → Prop) (h : B + 2 < X) (hm : U mask) (hp : ∀ x, Pl x → U x) : (mkK B X mask neg Pl).Ok := by
  constructor <;> first | exact hm | exact hp | (simp only [mkK]; omega)
theorem mkK_from (B X : Nat) (mask : Int) (neg : Bool) (Pl : Int → Prop) : (mkK B X mask neg Pl).From X := by constructor <;> rfl

/-- What segment A asks. -/
def ForA (K : Ks) (w0 W : World) (a0 aw : Option Addr) (n : Nat) (d0 : Array Int) (oo : Bool) (rb sb b : Nat) (f : Nat → Value) : Prop :=
  ∃ d' : Array Int, St K 2000000000000 W ∧ Below w0.heap.size w0 W ∧ W.rowIs rb 36 2 (fun i => if i = 0 then .slice aw n n else K.lastV) ∧ ¬ OwnL K.L K.bc W rb ∧ (oo = false → St K 0 W) ∧ W.rowIs sb 34 6 f ∧
    (n = 0 ∨ (aw = some ⟨b, 0, none⟩ ∧ RowA b n n d' W)) ∧ Sort.PermIn 0 n d0 d' ∧ (oo = true → Sort.SortedIn (ltc K.cf) 0 n d') ∧ (oo = false → d' = d0)

/-- The result's own block behind sortedPlaces. -/
theorem forA {K : Ks} (hK : K.Ok) {w0 WS w' : World} {a0 aw : Option Addr} {n : Nat} {d0 d' : Array Int} {oo : Bool} {sb b : Nat} {f : Nat → Value} (hlow : w0.heap.size ≤ K.bm) (st : St K 2000000000000 w') (bel0 : Below w0.heap.size w0 WS) (chg : Chg [b, K.bc] WS w') (hb : Chg [K.bc] WS w' ∨ w0.heap.size ≤ b) (hs : WS.rowIs sb 34 6 f) (hsb : Chg [K.bc] WS w' ∨ sb ≠ b) (hsc : sb ≠ K.bc)
    (hno : oo = false → St K 0 w') (haw : n = 0 ∨ (aw = some ⟨b, 0, none⟩ ∧ RowA b n n d' w')) (pm : Sort.PermIn 0 n d0 d') (so : oo = true → Sort.SortedIn (ltc K.cf) 0 n d') (no : oo = false → d' = d0) :
    ForA K w0 (w'.alloc (.cells #[.slice aw n n, K.lastV] 36)) a0 aw n d0 oo w'.heap.size sb b f := by
  have k1 := hK.h1; have k2 := hK.h2; have k3 := hK.h3; have k4 := hK.h4; have k5 := hK.h5; have k6 := hK.h6; have k7 := hK.h7; have k8 := hK.h8; have k9 := hK.h9; have k10 := hK.h10
  have hlw := st.st.low
  have hbel : Below w0.heap.size w0 w' := by
    rcases hb with h0 | hb
    · exact h0.below bel0 bel0.size (by intro k hk; simp at hk; omega)
    · exact chg.below bel0 bel0.size (by intro k hk; simp at hk; omega)
  have hrow : w'.rowIs sb 34 6 f := by
    rcases hsb with h0 | hsb
    · exact h0.row hs (by simpa using hsc)
    · exact chg.row hs (by simp; exact ⟨hsb, hsc⟩)
  refine ⟨d', st.alloc hK _, ((Chg.refl [] w').alloc _).below hbel hbel.size (by simp), row_two' w' _ _ 36, ?_, fun ho => (hno ho).alloc hK _, hrow.alloc _, haw.imp id fun ⟨h1, h2⟩ => ⟨h1, h2.alloc _⟩, pm, so, no⟩
  rintro (ho | ⟨ad, n', k', h1, h2⟩)
  · simp only [Ks.L, List.mem_cons, List.not_mem_nil, or_false] at ho
    omega
  · rw [World.cell?_of_block (w := w') (blk_alloc_lt _ _ _ (Nat.lt_of_lt_of_le hK.bcN hlw))] at h1
    have := (st.st.calls.back ⟨ad, n', k', h1, h2⟩).2
    omega

set_option maxRecDepth 100000 in
set_option maxHeartbeats 8000000 in
theorem law_core (a0 : Option Addr) (n c0 : Nat) (d0 : Array Int) (oo : Bool) (mask : Int) (neg : Bool) (w : World) (hin : Inc w a0 n c0 d0) (hU : ∀ i, i < n → U d0[i]!) (hm : U mask) (hn : n ≤ 4096) :
    Calls Yba.prog 3 #[.slice a0 n c0, .bool oo, .int .u32 mask, .bool neg] w fun e w' => e = .returned (.bool true) ∧ Below w.heap.size w w' := by
  have mixed := mixedY
  have hz : ¬ (4096 : Int) < (n : Int) := by omega
  have hone : ∀ f a b, (Value.func f a b).oneCell' = true := fun _ _ _ => rfl
  have hst : ∀ (w : World) (f : Fn) (ad : Addr) (u : Value) (h : w.cell? ad = some u) (hf : w.frozen? ad = false), (store ad (.func f #[] #[])).run Yba.prog w = .ok () (w.setCell ad (.func f #[] #[])) := fun w f ad u h hf => by rw [run_store _ _ _ _ _ rfl, h, hf]; rfl
  obtain ⟨B, hB⟩ : ∃ B, B = w.heap.size := ⟨_, rfl⟩
  obtain ⟨W5, hW5⟩ : ∃ W, W = ((((w.alloc (.cells #[.int .u32 mask] 23)).alloc (.cells #[.bool neg] 4)).alloc (.cells #[.slice none 0 0] 22)).alloc (.cells #[.func (.func 6) #[] #[], .func (.func 8) #[] #[]] 29)) := ⟨_, rfl⟩
  have ch5 : Chg [] w W5 := by rw [hW5]; exact ((((Chg.refl [] w).alloc _).alloc _).alloc _).alloc _
  have sz5 : W5.heap.size = B + 4 := by rw [hW5]; simp [← hB]
  have rm5 : W5.rowIs B 23 1 (fun _ => uV mask) := by rw [hW5, hB]; exact (((row_one w _ 23).alloc _).alloc _).alloc _
  have rn5 : W5.rowIs (B + 1) 4 1 (fun _ => .bool neg) := by
    have h := (((row_one (w.alloc (.cells #[.int .u32 mask] 23)) (.bool neg) 4).alloc (.cells #[.slice none 0 0] 22)).alloc (.cells #[.func (.func 6) #[] #[], .func (.func 8) #[] #[]] 29))
    rw [hW5, hB]; simpa using h
  have rc5 : W5.rowIs (B + 2) 22 1 (fun _ => .slice none 0 0) := by
    have h := ((row_one ((w.alloc (.cells #[.int .u32 mask] 23)).alloc (.cells #[.bool neg] 4)) (.slice none 0 0) 22).alloc (.cells #[.func (.func 6) #[] #[], .func (.func 8) #[] #[]] 29))
    rw [hW5, hB]; simpa using h
  have ro5 : W5.rowIs (B + 3) 29 2 (fun i => if i = 0 then .func (.func 6) #[] #[] else .func (.func 8) #[] #[]) := by
    have h := row_two' (((w.alloc (.cells #[.int .u32 mask] 23)).alloc (.cells #[.bool neg] 4)).alloc (.cells #[.slice none 0 0] 22)) (.func (.func 6) #[] #[]) (.func (.func 8) #[] #[]) 29
    rw [hW5, hB]; simpa using h
  have HIN := hid_mk hin
  have hi5 := hid_mk (hin.below (ch5.below (Below.refl _ w) (Nat.le_refl _) (by simp)))
  have HU := hid_mk hU
  have HM := hid_mk hm
  clear hin hU hm
  go_enter Yba.func3, Yba.ntmps3
  go_upto_region 6 with fail
  rw [show ((((w.alloc (.cells #[.int .u32 mask] 23)).alloc (.cells #[.bool neg] 4)).alloc (.cells #[.slice none 0 0] 22)).alloc (.cells #[.func (.func 6) #[] #[], .func (.func 8) #[] #[]] 29)) = W5 from hW5.symm, ← hB]
  have HBw := hid_mk hB
  have H5 := hid_mk (And.intro ch5 (And.intro sz5 (And.intro rm5 (And.intro rn5 (And.intro rc5 ro5)))))
  clear hW5 hB ch5 sz5 rm5 rn5 rc5 ro5 hz hst
  have hmk := fun W => run_make_row' (P := Yba.prog) 22 23 (.int .u32 0) 4 Yba.underlying22 info23 rfl .i64 .i64 n (by omega) (by omega) W
  go_upto_if 33 with fail
  go_cut [12] (fun s wx => ∃ aw : Option Addr, s = .slice aw n n ∧ Hid (Chg [] W5 wx ∧ aw.isNone = a0.isNone ∧ ((n = 0 ∧ aw = none ∧ wx.heap.size = B + 4) ∨ (aw = some ⟨B + 4, 0, none⟩ ∧ RowA (B + 4) n n d0 wx ∧ wx.heap.size = B + 5))))
  case first => as_aux_lemma =>
    obtain ⟨hd, ⟨rfl, rfl, rfl⟩ | ⟨x, rfl, hx2⟩⟩ := hi5.out
    · go_wp2_with fail
      go_meet
      case rel => exact ⟨none, rfl, Chg.refl _ _, rfl, Or.inl (by have h := H5.out.2.1; simp [h])⟩
    · have hsz5 := H5.out.2.1
      have hfl := filled W5 n d0 hd
      have hsrc : Hid (∀ j v, (bl (fun i => d0[i]!) n)[j]? = some v → (W5.alloc (.cells (madeCells #[.int .u32 0] n) 23)).cell? (x.add j) = some v) := bl_cell fun i hi => ((Chg.refl [] W5).alloc _).cell (hx2 i hi) (by simp)
      have hg : Hid ((W5.alloc (.cells (madeCells #[.int .u32 0] n) 23)).heap[W5.heap.size]? = some (.cells (madeCells #[.int .u32 0] n) 23 (0, 0))) := heap_alloc_new W5 _
      have HFL := hid_mk hfl
      have HS5 := hid_mk hsz5
      clear hfl hsz5
      go_wp2_with (first | (refine wpList_copy_own rfl (.tmp 37) (.tmp 38) 22 22 rfl 23 Yba.underlying22 (by kernel_rfl) W5.heap.size 0 n n x n c0 rfl rfl (madeCells #[.int .u32 0] n) 23 hg.out (bl (fun i => d0[i]!) n) (by rw [bl_len]; simp) hsrc.out (by rw [bl_len, size_madeCells]; omega) (bl_one _ n) ?_))
      go_meet
      case rel =>
        have e := HS5.out
        refine ⟨some ⟨B + 4, 0, none⟩, by rw [e], HFL.out.2, rfl, Or.inr ⟨rfl, ?_, by simp [e]⟩⟩
        have h := HFL.out.1
        rw [e] at h ⊢
        exact h
  case rest => as_aux_lemma =>
  obtain ⟨aw, rfl, hcc⟩ := hcut
  clear hmk hi5
  obtain ⟨f, hf⟩ : ∃ f : Nat → Value, f = fun i => (#[Value.slice aw n n, .nilFunc, .bool false, .int .i64 0, .int .i64 0, .bool oo])[i]?.getD undef := ⟨_, rfl⟩
  have hf0 : Hid (f 0 = .slice aw n n) := by show _ = _; rw [hf]; rfl
  have hf5 : Hid (f 5 = .bool oo) := by show _ = _; rw [hf]; rfl
  obtain ⟨sb, hsb⟩ : ∃ sb, sb = wc.heap.size := ⟨_, rfl⟩
  obtain ⟨WS, hWS⟩ : ∃ W, W = wc.alloc (.cells #[.slice aw n n, .nilFunc, .bool false, .int .i64 0, .int .i64 0, .bool oo] 34) := ⟨_, rfl⟩
  have rs : Hid (WS.rowIs sb 34 6 f) := by
    show World.rowIs _ _ _ _ _
    rw [hWS, hsb, hf]
    exact World.rowIs_alloc wc #[.slice aw n n, .nilFunc, .bool false, .int .i64 0, .int .i64 0, .bool oo] 34 _ (by
      intro i hi
      rw [Array.getElem?_eq_getElem hi]
      rfl)
  have chs : Hid (Chg [] w WS) := by
    show Chg _ _ _
    rw [hWS]
    exact (H5.out.1.step hcc.out.1 (by simp)).alloc _
  have ch5s : Hid (Chg [] W5 WS) := by
    show Chg _ _ _
    rw [hWS]
    exact hcc.out.1.alloc _
  have szs : Hid (WS.heap.size = sb + 1) := by show _ = _; rw [hWS, hsb]; simp
  have hWSh := hid_mk hWS
  have HSB := hid_mk hsb
  clear hf hWS hsb
  go_upto_region 11 with fail
  rw [show wc.alloc (.cells #[.slice aw n n, .nilFunc, .bool false, .int .i64 0, .int .i64 0, .bool oo] 34) = WS from hWSh.out.symm, ← HSB.out]
  have hok : Hid ((mkK B (sb + 1) mask neg (fun x => ∃ i, i < n ∧ d0[i]! = x)).Ok) := mkK_ok B (sb + 1) mask neg _ (by
    rcases hcc.out.2.2 with ⟨_, _, h⟩ | ⟨_, _, h⟩ <;> (have := HSB.out; omega)) HM.out (fun x ⟨i, hi, hx⟩ => by rw [← hx]; exact HU.out i hi)
  have hbel : Hid (Below w.heap.size w WS) := chs.out.below (Below.refl _ w) (Nat.le_refl _) (by simp)
  have hsbB : B + 4 ≤ sb := by
    rcases hcc.out.2.2 with ⟨_, _, h⟩ | ⟨_, _, h⟩ <;> (have := HSB.out; omega)
  have rmS := ch5s.out.row H5.out.2.2.1 (by simp)
  have rnS := ch5s.out.row H5.out.2.2.2.1 (by simp)
  have rcS := ch5s.out.row H5.out.2.2.2.2.1 (by simp)
  have roS := ch5s.out.row H5.out.2.2.2.2.2 (by simp)
  have co0 : WS.cell? ⟨B + 1 + 1 + 1, 0, none⟩ = some (.func (.func 6) #[] #[]) := roS.cell (i := 0) (by omega)
  have co1 : WS.cell? ⟨B + 1 + 1 + 1, 1, none⟩ = some (.func (.func 8) #[] #[]) := roS.cell (i := 1) (by omega)
  have HR := hid_mk (And.intro rmS (And.intro rnS rcS))
  have hst : ∀ (w : World) (f : Fn) (a b : Array Value) (ad : Addr) (u : Value) (h : w.cell? ad = some u) (hf : w.frozen? ad = false), (store ad (.func f a b)).run Yba.prog w = .ok () (w.setCell ad (.func f a b)) := fun w f a b ad u h hf => by rw [run_store _ _ _ _ _ rfl, h, hf]; rfl
  clear rmS rnS rcS roS
  go_cut [14] (fun s wx => ∃ rb b : Nat, s = pt rb ∧ Hid (ForA (mkK B (sb + 1) mask neg (fun x => ∃ i, i < n ∧ d0[i]! = x)) w wx a0 aw n d0 oo rb sb b f))
  case first => as_aux_lemma =>
    have hwB := HBw.out
    rcases hcc.out.2.2 with ⟨h0, h1, h2⟩ | ⟨h1, h2, h3⟩
    · have hcall : Hid (Calls Yba.prog 9 #[pt sb, .func (.func 4) #[] #[pt (B + 1 + 1), pt B, pt (B + 1)], oV] WS fun e w' => e = .returned (.agg #[.slice none n n, .func (.func 22) #[] #[pt (sb + 1 + 6), pt (sb + 1 + 4), pt (sb + 1 + 5), pt (sb + 1 + 3), pt (sb + 1 + 7)]]) ∧ ForA (mkK B (sb + 1) mask neg (fun x => ∃ i, i < n ∧ d0[i]! = x)) w (w'.alloc (.cells #[.slice none n n, .func (.func 22) #[] #[pt (sb + 1 + 6), pt (sb + 1 + 4), pt (sb + 1 + 5), pt (sb + 1 + 3), pt (sb + 1 + 7)]] 36)) a0 none n d0 oo w'.heap.size sb 0 f) := by
        subst h0
        have hp := places_nil _ hok.out WS sb oo f (by rw [szs.out]; exact mkK_from _ _ _ _ _) (by show B + 2 < sb; omega) HR.out.1 HR.out.2.1 HR.out.2.2 rs.out (by rw [hf0.out, h1]) hf5.out
        refine hp.mono ?_
        rintro e w' ⟨rfl, st, chg⟩
        exact ⟨rfl, forA (b := 0) (d' := d0) hok.out (by show w.heap.size ≤ B; omega) (st.mono (by omega)) hbel.out (chg.mono (by intro k hk _; simp at hk; simp [hk])) (Or.inl chg) rs.out (Or.inl chg) (by show sb ≠ B + 2; omega) (fun _ => st) (Or.inl rfl) (Sort.permIn_refl _ _ _) (fun _ i j _ hij hj => by omega) (fun _ => rfl)⟩
      have H0 := hid_mk h0
      subst h1
      clear h0 h2 hwB hf0 hf5 rs
      go_wp2_with (first | (go_at_call 9; refine hcall.out.mono ?_; rintro e w' ⟨rfl, hfa⟩))
      have HFA := hid_mk hfa
      clear hfa
      go_meet
      case rel => exact ⟨_, 0, rfl, HFA⟩
    · have hcall : Hid (Calls Yba.prog 9 #[pt sb, .func (.func 4) #[] #[pt (B + 1 + 1), pt B, pt (B + 1)], oV] WS fun e w' => e = .returned (.agg #[.slice (some ⟨B + 4, 0, none⟩) n n, .func (.func 22) #[] #[pt (sb + 1 + 6), pt (sb + 1 + 4), pt (sb + 1 + 5), pt (sb + 1 + 3), pt (sb + 1 + 7)]]) ∧ ForA (mkK B (sb + 1) mask neg (fun x => ∃ i, i < n ∧ d0[i]! = x)) w (w'.alloc (.cells #[.slice (some ⟨B + 4, 0, none⟩) n n, .func (.func 22) #[] #[pt (sb + 1 + 6), pt (sb + 1 + 4), pt (sb + 1 + 5), pt (sb + 1 + 3), pt (sb + 1 + 7)]] 36)) a0 (some ⟨B + 4, 0, none⟩) n d0 oo w'.heap.size sb (B + 4) f) := by
        have hsz := HSB.out
        have hp := places_y (mkK B (sb + 1) mask neg (fun x => ∃ i, i < n ∧ d0[i]! = x)) hok.out WS sb (B + 4) n d0 oo f (by rw [szs.out]; exact mkK_from _ _ _ _ _) hn (by show B + 2 < B + 4; omega) (by rw [szs.out]; omega) (by omega) HR.out.1 HR.out.2.1 HR.out.2.2 rs.out (by rw [hf0.out, h1]) hf5.out (by rw [hWSh.out]; exact h2.alloc _) (fun i hi => ⟨i, hi, rfl⟩)
        refine hp.mono ?_
        rintro e w' ⟨rfl, st, chg, d', rw', pm, so, no⟩
        exact ⟨rfl, forA (K := mkK B (sb + 1) mask neg (fun x => ∃ i, i < n ∧ d0[i]! = x)) (d' := d') hok.out (by show w.heap.size ≤ B; omega) st hbel.out chg (Or.inr (by omega)) rs.out (Or.inr (by omega)) (by show sb ≠ B + 2; omega) (fun ho => (no ho).2) (Or.inr ⟨rfl, rw'⟩) pm so (fun ho => (no ho).1)⟩
      subst h1
      clear h2 h3 hwB hf0 hf5 rs
      go_wp2_with (first | (go_at_call 9; refine hcall.out.mono ?_; rintro e w' ⟨rfl, hfa⟩))
      have HFA := hid_mk hfa
      clear hfa
      go_meet
      case rel => exact ⟨_, B + 4, rfl, HFA⟩
  case rest => as_aux_lemma =>
  obtain ⟨rb, b, rfl, hfa⟩ := hcut
  obtain ⟨d', q1, q2, q3, q4, q5, q6, q7, q8, q9, q10⟩ := hfa.out
  apply_assumption
  exact segA _ _ _ _ _ _ _ _ _ _ _ _ _ _ _ _ _ _ _ _ _ _ _ _ _ _ _ _ _ _ _ _ _ _ _ _ _ _ _ _ _ _ _ _ _ _ _ _ _ _ _ _ _ _ _ _ _ _ _ _ _ _ _ _ _ _ _ _ _ _ _ _ _ _ _ _ _ _ _ _ _ _ _ _ _ _ _ _ _ _ _ _ _ _ _ _ _ _ _ _ _ _ _ _ _ _ _ _ _ _ _ _ _ _ _ _ _ _ _ _ _ _ _ _ _ _ _ _ _ _ _ _ _ _ _ _ _ _ _ _ _ _ _ _ _ _ _ _ _ _ _ _ _ _ _ _ _ _ _ _ _ _ _ _ _ _ _ _ _ _ _ _ _ _ _ _ _ _ _ _ _ _ _ _ _ _ _ _ _ _ _ _ _ _ _ _ _ (mkK B (sb + 1) mask neg (fun x => ∃ i, i < n ∧ d0[i]! = x)) w _ a0 aw n c0 d0 d' oo rb sb b f hn rfl HIN.out hok.out (by show w.heap.size ≤ B; have := HBw.out; omega) q1 q2 q3 q4 q5 q6 hf0.out hf5.out hcc.out.2.1 q7 q8 q9 q10

end Go.Proofs.Ybulkdkxi.lawS5598AWhole
