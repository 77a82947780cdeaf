import Derived.Test.YbulkdkveCPhase
namespace Go.Proofs.Ybulkdkve.lawS5594CWhole
open Go.RowKit Go.Deep
set_option linter.unusedVariables false
set_option linter.unusedSimpArgs false

theorem insertL_any {ao : Option Addr} (n i c gv base : Nat) (xs : List Lk) (x : Lk) (w : World) (hlen : xs.length = n) (hin : i ≤ n) (hb : n ≤ 100000) (hbase : base ≤ w.heap.size) (hne : (Value.slice ao n c).ownBlock ≠ some gv)
    (hown : w.ownsRow base 90 3 (.slice ao n c) n (flat encL xs)) (hv : w.heap[gv]? = some (.cells (encL x).toArray 90 (0, 0))) :
    Calls Yba.prog 8 #[.slice ao n c, .int .i64 i, .slice (some ⟨gv, 0, none⟩) 1 1] w fun e w' => ∃ g cap, e = .returned (.slice (some ⟨g, 0, none⟩) (n + 1) cap) ∧ w'.ownsRow base 90 3 (.slice (some ⟨g, 0, none⟩) (n + 1) cap) (n + 1) (flat encL (xs.take i ++ x :: xs.drop i)) ∧ Chg (Value.slice ao n c).ownBlock.toList w w' := by
  rcases hown.2 with ⟨he, h0⟩ | ⟨g0, cap, cur, he, _⟩
  · injection he with e1 e2 e3
    subst e1
    subst e2
    subst e3
    obtain rfl : i = 0 := by omega
    obtain rfl : xs = [] := List.eq_nil_of_length_eq_zero hlen
    refine (insertL_nil gv base x w hbase hv).mono ?_
    rintro e w' ⟨g, cap, rfl, h1, h2, h3⟩
    exact ⟨g, cap, rfl, h1, h2⟩
  · injection he with e1 e2 e3
    subst e1
    subst e3
    refine (insertL g0 n i c gv base xs x w hlen hin hb (fun e => hne (by rw [e]; rfl)) hbase hown hv).mono ?_
    rintro e w' ⟨g, cap, rfl, h1, h2, h3⟩
    exact ⟨g, cap, rfl, h1, h2⟩


theorem insertH_any {ao : Option Addr} (n i c gv base : Nat) (xs : List Hd) (x : Hd) (w : World) (hlen : xs.length = n) (hin : i ≤ n) (hb : n ≤ 100000) (hbase : base ≤ w.heap.size) (hne : (Value.slice ao n c).ownBlock ≠ some gv)
    (hown : w.ownsRow base 88 4 (.slice ao n c) n (flat encH xs)) (hv : w.heap[gv]? = some (.cells (encH x).toArray 88 (0, 0))) :
    Calls Yba.prog 9 #[.slice ao n c, .int .i64 i, .slice (some ⟨gv, 0, none⟩) 1 1] w fun e w' => ∃ g cap, e = .returned (.slice (some ⟨g, 0, none⟩) (n + 1) cap) ∧ w'.ownsRow base 88 4 (.slice (some ⟨g, 0, none⟩) (n + 1) cap) (n + 1) (flat encH (xs.take i ++ x :: xs.drop i)) ∧ Chg (Value.slice ao n c).ownBlock.toList w w' := by
  rcases hown.2 with ⟨he, h0⟩ | ⟨g0, cap, cur, he, _⟩
  · injection he with e1 e2 e3
    subst e1
    subst e2
    subst e3
    obtain rfl : i = 0 := by omega
    obtain rfl : xs = [] := List.eq_nil_of_length_eq_zero hlen
    refine (insertH_nil gv base x w hbase hv).mono ?_
    rintro e w' ⟨g, cap, rfl, h1, h2, h3⟩
    exact ⟨g, cap, rfl, h1, h2⟩
  · injection he with e1 e2 e3
    subst e1
    subst e3
    refine (insertH g0 n i c gv base xs x w hlen hin hb (fun e => hne (by rw [e]; rfl)) hbase hown hv).mono ?_
    rintro e w' ⟨g, cap, rfl, h1, h2, h3⟩
    exact ⟨g, cap, rfl, h1, h2⟩



/-- Behind the loops: the lists hs0, ls0 that the loops made, and what the transaction and the resource hold now. -/
structure Stage (B : Nat) (tz rz : Nat → Value) (nm : ByteArray) (pol : Int) (hv lv : Value) (hs : List Hd) (ls : List Lk) (hs0 : List Hd) (ls0 : List Lk) (hc : Nat → Int) (N : Int) (w wr : World) : Prop where
  sys : Sys B tz rz nm hv lv hs ls hc wr
  tab : Tab B pol wr
  gh : ∀ x ∈ hs0, B + 4 ≤ x.b ∧ TyAt wr x.b 80
  gl : ∀ x ∈ ls0, B + 4 ≤ x.b ∧ TyAt wr x.b 86
  bel : Below B w wr
  size : B + 4 ≤ wr.heap.size
  cnt : ∀ j, 0 ≤ hc j ∧ hc j ≤ N

section
variable {B : Nat} {tz rz : Nat → Value} {nm : ByteArray} {pol : Int} {hv lv : Value} {hs : List Hd} {ls : List Lk} {hs0 : List Hd} {ls0 : List Lk} {hc : Nat → Int} {N : Int} {w wr w1 : World}
theorem Phase.stage (p : Phase B tz rz nm pol hv lv hs ls hc N w wr) : Stage B tz rz nm pol hv lv hs ls hs ls hc N w wr := ⟨p.sys, p.tab, p.gh, p.gl, p.bel, p.size, p.cnt⟩

theorem Stage.keep {L : List Nat} {hv' lv' : Value} {hs' : List Hd} {ls' : List Lk} {hc' : Nat → Int} {N' : Int} (p : Stage B tz rz nm pol hv lv hs ls hs0 ls0 hc N w wr) (hch : Chg L wr w1) (hL : ∀ x ∈ L, x = B + 2 ∨ x = B + 3 ∨ hv.ownBlock = some x ∨ lv.ownBlock = some x)
    (hsys : Sys B tz rz nm hv' lv' hs' ls' hc' w1) (hN : ∀ j, 0 ≤ hc' j ∧ hc' j ≤ N') : Stage B tz rz nm pol hv' lv' hs' ls' hs0 ls0 hc' N' w w1 := by
  have ge : ∀ x ∈ L, B + 2 ≤ x := by
    intro x hx
    rcases hL x hx with h | h | h | h
    · omega
    · omega
    · have := p.sys.hlt h; omega
    · have := p.sys.llt h; omega
  have far : ∀ b, B + 4 ≤ b → (TyAt wr b 80 ∨ TyAt wr b 86) → b ∉ L := by
    intro b hb ht hm
    rcases hL b hm with h | h | h | h
    · omega
    · omega
    · rcases ht with ht | ht
      · exact ty_apart p.sys.ho ht (by decide) h
      · exact ty_apart p.sys.ho ht (by decide) h
    · rcases ht with ht | ht
      · exact ty_apart p.sys.lo ht (by decide) h
      · exact ty_apart p.sys.lo ht (by decide) h
  refine ⟨hsys, p.tab.chg hch (fun h => by have := ge _ h; omega) (fun h => by have := ge _ h; omega), ?_, ?_, hch.below p.bel (by have := p.size; omega) (fun k hk => by have := ge k hk; omega), Nat.le_trans p.size hch.size, hN⟩
  · intro x hx
    have := p.gh x hx
    exact ⟨this.1, this.2.chg hch (far _ this.1 (.inl this.2))⟩
  · intro x hx
    have := p.gl x hx
    exact ⟨this.1, this.2.chg hch (far _ this.1 (.inr this.2))⟩
theorem Stage.more (p : Stage B tz rz nm pol hv lv hs ls hs0 ls0 hc N w wr) (hch : Chg [] wr w1) : Stage B tz rz nm pol hv lv hs ls hs0 ls0 hc N w w1 :=
  p.keep hch (by simp) (p.sys.chg hch (by simp) (by simp) (by simp) (by simp)) p.cnt
theorem Stage.drew (p : Stage B tz rz nm pol hv lv hs ls hs0 ls0 hc N w wr) : Stage B tz rz nm pol hv lv hs ls hs0 ls0 hc N w wr.drew := p.more ((Chg.refl [] wr).drew)
theorem Stage.count (p : Stage B tz rz nm pol hv lv hs ls hs0 ls0 hc N w wr) {m : Nat} (hm : m < 4) : Stage B tz rz nm pol hv lv hs ls hs0 ls0 (upd hc m (hc m + 1)) (N + 1) w (wr.setCell ⟨B + 3, 8 + m, none⟩ (.int .i64 (hc m + 1))).drew := by
  have hch : Chg [B + 3] wr (wr.setCell ⟨B + 3, 8 + m, none⟩ (.int .i64 (hc m + 1))) := (Chg.refl _ wr).setCell _ _ (by simp)
  refine (p.keep hch (by simp) (p.sys.setC hm (hc m + 1)) ?_).drew
  intro j
  have := p.cnt j
  have := p.cnt m
  unfold upd
  split <;> omega
theorem Stage.putL (p : Stage B tz rz nm pol hv lv hs ls hs0 ls0 hc N w wr) (hch : Chg lv.ownBlock.toList wr w1) {lv' : Value} {ls' : List Lk} (hown : w1.ownsRow (B + 4) 90 3 lv' ls'.length (flat encL ls')) :
    Stage B tz rz nm pol hv lv' hs ls' hs0 ls0 hc N w (w1.setCell ⟨B + 2, 5, none⟩ lv') := by
  have hch' : Chg ((B + 2) :: lv.ownBlock.toList) wr (w1.setCell ⟨B + 2, 5, none⟩ lv') := (hch.mono (L' := (B + 2) :: lv.ownBlock.toList) (fun k hk _ => List.mem_cons_of_mem _ hk)).setCell _ _ (by simp)
  refine p.keep hch' ?_ (p.sys.putL hch hown) p.cnt
  intro y hy
  rcases List.mem_cons.1 hy with hy | hy
  · exact .inl hy
  · rw [Option.mem_toList] at hy
    exact .inr (.inr (.inr hy))
theorem Stage.putH (p : Stage B tz rz nm pol hv lv hs ls hs0 ls0 hc N w wr) (hch : Chg hv.ownBlock.toList wr w1) {hv' : Value} {hs' : List Hd} (hown : w1.ownsRow (B + 4) 88 4 hv' hs'.length (flat encH hs')) :
    Stage B tz rz nm pol hv' lv hs' ls hs0 ls0 hc N w (w1.setCell ⟨B + 3, 3, none⟩ hv') := by
  have hch' : Chg ((B + 3) :: hv.ownBlock.toList) wr (w1.setCell ⟨B + 3, 3, none⟩ hv') := (hch.mono (L' := (B + 3) :: hv.ownBlock.toList) (fun k hk _ => List.mem_cons_of_mem _ hk)).setCell _ _ (by simp)
  refine p.keep hch' ?_ (p.sys.putH hch hown) p.cnt
  intro y hy
  rcases List.mem_cons.1 hy with hy | hy
  · exact .inr (.inl hy)
  · rw [Option.mem_toList] at hy
    exact .inr (.inr (.inl hy))
theorem Stage.lie (p : Stage B tz rz nm pol hv lv hs ls hs0 ls0 hc N w wr) : Lies wr (B + 2) ∧ Lies wr (B + 3) := ⟨Lies.row p.sys.t, Lies.row p.sys.r⟩
end

/-! ### One element laid into a list -/
section
variable {α : Type} (xs : List α) (x : α) (q : Nat)
def ins : List α := xs.take q ++ x :: xs.drop q
theorem ins_length (hq : q ≤ xs.length) : (ins xs x q).length = xs.length + 1 := by simp [ins]; omega
theorem ins_at (hq : q ≤ xs.length) : (ins xs x q)[q]'(by rw [ins_length xs x q hq]; omega) = x := by
  simp only [ins]
  rw [List.getElem_append_right (by simp; omega)]
  simp [Nat.min_eq_left hq]
theorem ins_lt (hq : q ≤ xs.length) (j : Nat) (hj : j < q) : (ins xs x q)[j]'(by rw [ins_length xs x q hq]; omega) ∈ xs := by
  simp only [ins]
  rw [List.getElem_append_left (by simp; omega)]
  simp
theorem ins_mem (y : α) (hy : y ∈ ins xs x q) : y = x ∨ y ∈ xs := by
  simp only [ins, List.mem_append, List.mem_cons] at hy
  rcases hy with hy | hy | hy
  · exact .inr (List.mem_of_mem_take hy)
  · exact .inl hy
  · exact .inr (List.mem_of_mem_drop hy)
end
end Go.Proofs.Ybulkdkve.lawS5594CWhole
