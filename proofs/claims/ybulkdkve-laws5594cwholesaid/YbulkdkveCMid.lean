import Derived.Test.YbulkdkveCStage
namespace Go.Proofs.Ybulkdkve.lawS5594CWhole
open Go.RowKit Go.Deep
set_option linter.unusedVariables false
set_option linter.unusedSimpArgs false

theorem cloneL_any {ao : Option Addr} (n c base : Nat) (ls : List Lk) (w : World) (h0 : n = 0 → ao = none) (hlen : ls.length = n) (hb : n ≤ 100000) (hown : w.ownsRow base 90 3 (.slice ao n c) n (flat encL ls)) :
    Calls Yba.prog 10 #[.slice ao n c] w fun e w' => ∃ ao' c', e = .returned (.slice ao' n c') ∧ w'.ownsRow w.heap.size 90 3 (.slice ao' n c') n (flat encL ls) ∧ Chg [] w w' := by
  rcases hown.2 with ⟨he, h0'⟩ | ⟨g0, cap, cur, he, _⟩
  · injection he with e1 e2 e3
    subst e1
    subst e2
    subst e3
    obtain rfl : ls = [] := List.eq_nil_of_length_eq_zero hlen
    refine (cloneL_nil w).mono ?_
    rintro e w' ⟨rfl, hw⟩
    subst hw
    exact ⟨none, 0, rfl, World.ownsRow_nil _ _ _ _, Chg.refl _ _⟩
  · injection he with e1 e2 e3
    subst e1
    subst e3
    have hn : 0 < n := by
      rcases Nat.eq_zero_or_pos n with h | h
      · cases h0 h
      · exact h
    refine (cloneL_some g0 n c base ls w hn hb hown).mono ?_
    rintro e w' ⟨g', cap', rfl, h1, h2⟩
    exact ⟨some ⟨g', 0, none⟩, cap', rfl, h1, h2⟩


theorem cloneH_any {ao : Option Addr} (n c base : Nat) (ls : List Hd) (w : World) (h0 : n = 0 → ao = none) (hlen : ls.length = n) (hb : n ≤ 100000) (hown : w.ownsRow base 88 4 (.slice ao n c) n (flat encH ls)) :
    Calls Yba.prog 11 #[.slice ao n c] w fun e w' => ∃ ao' c', e = .returned (.slice ao' n c') ∧ w'.ownsRow w.heap.size 88 4 (.slice ao' n c') n (flat encH ls) ∧ Chg [] w w' := by
  rcases hown.2 with ⟨he, h0'⟩ | ⟨g0, cap, cur, he, _⟩
  · injection he with e1 e2 e3
    subst e1
    subst e2
    subst e3
    obtain rfl : ls = [] := List.eq_nil_of_length_eq_zero hlen
    refine (cloneH_nil w).mono ?_
    rintro e w' ⟨rfl, hw⟩
    subst hw
    exact ⟨none, 0, rfl, World.ownsRow_nil _ _ _ _, Chg.refl _ _⟩
  · injection he with e1 e2 e3
    subst e1
    subst e3
    have hn : 0 < n := by
      rcases Nat.eq_zero_or_pos n with h | h
      · cases h0 h
      · exact h
    refine (cloneH_some g0 n c base ls w hn hb hown).mono ?_
    rintro e w' ⟨g', cap', rfl, h1, h2⟩
    exact ⟨some ⟨g', 0, none⟩, cap', rfl, h1, h2⟩



theorem chg_grown2 {v : Value} (w : World) (o1 o2 : Obj) {w2 : World} (hg : ((w.alloc o1).alloc o2).drew.grownBy w2 v.ownBlock) : Chg v.ownBlock.toList w w2 :=
  ((((Chg.refl _ w).alloc o1).alloc o2).drew).grown hg (by intro k hk _; rw [Option.mem_toList]; exact hk)
theorem ty_grown2 {v : Value} (w : World) (c : Array Value) (t : Nat) (o2 : Obj) {w2 : World} (hg : ((w.alloc (.cells c t)).alloc o2).drew.grownBy w2 v.ownBlock) (hv : v.ownBlock ≠ some w.heap.size) : TyAt w2 w.heap.size t := by
  refine TyAt.chg (L := v.ownBlock.toList) (w := ((w.alloc (.cells c t)).alloc o2)) (((Chg.refl _ _).drew).grown hg (by intro k hk _; rw [Option.mem_toList]; exact hk)) ((TyAt.new w c t).chg ((Chg.refl [] _).alloc _) (by simp)) ?_
  intro hm
  rw [Option.mem_toList] at hm
  exact hv hm

/-- Behind 'if promote'. -/
structure MidR (a6 : Bool) (B : Nat) (nm : ByteArray) (pol : Int) (hs : List Hd) (ls : List Lk) (w : World) (f q p n k : Nat) (ao al : Option Addr) (c cl : Nat) (HS : List Hd) (LS : List Lk) (HC : Nat → Int) (wx : World) : Prop where
  st : Stage B tz0 rz0 nm pol (.slice ao n c) (.slice al k cl) HS LS hs ls HC 100000 w wx
  hn : HS.length = n
  hk : LS.length = k
  h0 : n = 0 → ao = none
  k0 : k = 0 → al = none
  yes : a6 = true → 1 ≤ f ∧ f ≤ 3 ∧ q ≤ ls.length ∧ p ≤ hs.length ∧ HS = ins hs ⟨B + 2, f, q⟩ p ∧ LS = ins ls ⟨B + 3, p, 0⟩ q
  no : a6 = false → f = 0 ∧ HS = hs ∧ LS = ls

/-- The Done of a promotion, out of what the law has laid. -/
theorem mid_promote {B : Nat} {nm : ByteArray} {pol : Int} {hs : List Hd} {ls : List Lk} {w wx wy : World} {f q p n k : Nat} {ao al : Option Addr} {c cl : Nat} {HS : List Hd} {LS : List Lk} {HC : Nat → Int} {a3 : Bool} {m : Nat}
    (h : MidR true B nm pol hs ls w f q p n k ao al c cl HS LS HC wx) (hch : Chg [] wx wy) (hm : m < 4) (hnb : n ≤ 100001) (hkb : k ≤ 100001) :
    Calls Yba.prog 12 #[pt (B + 1), pt (B + 2), pt (B + 3), .int .u8 f, .int .u8 m, .bool a3] wy fun e w' => e = .returned (.tuple #[]) ∧
      Done B tz0 rz0 nm (.slice ao n c) (.slice al k cl) (HS.set p ⟨B + 2, m, q⟩) LS (upd (upd HC f (HC f - 1)) m (upd HC f (HC f - 1) m + 1)) m wy w' := by
  obtain ⟨y1, y2, y3, y4, y5, y6⟩ := h.yes rfl
  have S := h.st.more hch
  have hn := h.hn
  have hk := h.hk
  have hn' := ins_length hs ⟨B + 2, f, q⟩ p y4
  have hk' := ins_length ls ⟨B + 3, p, 0⟩ q y3
  rw [y5, hn'] at hn
  rw [y6, hk'] at hk
  obtain ⟨lT, lR⟩ := S.lie
  obtain ⟨g, c', hge⟩ : ∃ g c', Value.slice ao n c = .slice (some ⟨g, 0, none⟩) n c' := by
    have ho := S.sys.ho
    rw [h.hn] at ho
    obtain ⟨g, c', e, _⟩ := ho.form (by omega)
    exact ⟨g, c', e⟩
  obtain ⟨gl, cl', hle⟩ : ∃ g c', Value.slice al k cl = .slice (some ⟨g, 0, none⟩) k c' := by
    have lo := S.sys.lo
    rw [h.hk] at lo
    obtain ⟨g, c', e, _⟩ := lo.form (by omega)
    exact ⟨g, c', e⟩
  rw [hge, hle] at S ⊢
  subst y5
  subst y6
  refine (tgrant_promote (p := p) (q := q) S.sys S.tab S.size h.hn h.hk hnb hkb (by omega) (by omega) (by rw [ins_at _ _ _ y3]) (by rw [ins_at _ _ _ y3]) ?_ (by rw [ins_at _ _ _ y4]) ?_ ?_ ?_ (by omega) (by omega) hm (by rw [ins_at _ _ _ y4]) ⟨B + 2, f, q⟩ (ins_at _ _ _ y4) ?_)
  · intro j hj
    have := S.gl _ (ins_lt ls ⟨B + 3, p, 0⟩ q y3 j hj)
    omega
  · intro j hj
    have := S.gh _ (ins_lt hs ⟨B + 2, f, q⟩ p y4 j hj)
    omega
  · intro x hx
    rcases ins_mem _ _ _ _ hx with rfl | hx
    · exact lR
    · exact (S.gl x hx).2.lies
  · intro x hx
    rcases ins_mem _ _ _ _ hx with rfl | hx
    · exact lT
    · exact (S.gh x hx).2.lies
  · intro j
    have := S.cnt j
    omega
end Go.Proofs.Ybulkdkve.lawS5594CWhole
