import Derived.WalkKit
import Derived.Deep.OwnRows
import Derived.Deep.AppendLies
import Derived.Deep.Draws
/-! Plain laws on memory and on rows of structs: no program in sight. -/
namespace Go.Proofs.Ybulkdkwu.lawS5597AWhole
open Go.RowKit Go.Deep
set_option linter.unusedVariables false
set_option linter.unusedSimpArgs false

/-- The pointer to block b's head. -/
abbrev pt (b : Nat) : Value := .pointer (some ⟨b, 0, none⟩)

/-! ### What may have changed: the blocks of L, and new ones. -/
structure Chg (L : List Nat) (w w' : World) : Prop where
  os : w'.os = w.os
  tape : w'.tape = w.tape
  output : w'.output = w.output
  size : w.heap.size ≤ w'.heap.size
  block : ∀ k, k < w.heap.size → k ∉ L → w'.heap[k]? = w.heap[k]?

namespace Chg
variable {L L' : List Nat} {w w1 w2 : World}
theorem refl (L : List Nat) (w : World) : Chg L w w := ⟨rfl, rfl, rfl, Nat.le_refl _, fun _ _ _ => rfl⟩
theorem trans (h : Chg L w w1) (k : Chg L' w1 w2) : Chg (L ++ L') w w2 :=
  ⟨k.os.trans h.os, k.tape.trans h.tape, k.output.trans h.output, Nat.le_trans h.size k.size, fun i hi hn => by
    rw [List.mem_append, not_or] at hn
    exact (k.block i (Nat.lt_of_lt_of_le hi h.size) hn.2).trans (h.block i hi hn.1)⟩
theorem mono (h : Chg L w w1) (hs : ∀ k ∈ L, k < w.heap.size → k ∈ L') : Chg L' w w1 :=
  ⟨h.os, h.tape, h.output, h.size, fun k hk hn => h.block k hk (fun hm => hn (hs k hm hk))⟩
theorem step (h : Chg L w w1) (k : Chg L' w1 w2) (hs : ∀ x ∈ L', x < w.heap.size → x ∈ L) : Chg L w w2 :=
  (h.trans k).mono fun x hx hlt => by
    rcases List.mem_append.1 hx with hx | hx
    · exact hx
    · exact hs x hx hlt
theorem alloc (h : Chg L w w1) (o : Obj) : Chg L w (w1.alloc o) :=
  h.step (L' := []) ⟨rfl, rfl, rfl, by simp, fun k hk _ => blk_alloc_lt _ _ _ hk⟩ (by simp)
theorem drew (h : Chg L w w1) : Chg L w w1.drew := ⟨h.os, h.tape, h.output, h.size, h.block⟩
theorem drewN (h : Chg L w w1) (n : Nat) : Chg L w (w1.drewN n) := ⟨h.os, h.tape, h.output, h.size, h.block⟩
theorem setCell (h : Chg L w w1) (a : Addr) (v : Value) (ha : a.block < w.heap.size → a.block ∈ L) : Chg L w (w1.setCell a v) :=
  h.step (L' := [a.block]) ⟨rfl, rfl, rfl, by rw [nblk_setCell]; exact Nat.le_refl _, fun k hk hn => blk_setCell_other _ _ _ _ (by simpa using hn)⟩ (by
    intro x hx hlt
    rw [List.mem_singleton] at hx
    subst hx
    exact ha hlt)
theorem grown {row : Option Nat} (h : Chg L w w1) (hg : w1.grownBy w2 row) (hr : ∀ k, row = some k → k < w.heap.size → k ∈ L) : Chg L w w2 :=
  h.step (L' := row.toList) ⟨hg.os, hg.tape, hg.output, hg.size, fun k hk hn => hg.block k hk (fun e => hn (by rw [← e]; simp))⟩ (by
    intro x hx hlt
    cases row with
    | none => simp at hx
    | some r =>
      simp at hx
      subst hx
      exact hr _ rfl hlt)
theorem row {b t n : Nat} {f : Nat → Value} (h : Chg L w w1) (hr : w.rowIs b t n f) (hb : b ∉ L) : w1.rowIs b t n f := hr.of_block (h.block b hr.lt hb)
theorem below {B : Nat} {w0 : World} (h : Chg L w w1) (hb : Below B w0 w) (hB : B ≤ w.heap.size) (hL : ∀ k ∈ L, B ≤ k) : Below B w0 w1 :=
  hb.trans ⟨h.os, h.tape, h.output, h.size, fun k hk => h.block k (by omega) (fun hm => by have := hL k hm; omega)⟩
theorem own {base : Nat} {e : TypeId} {s : Nat} {v : Value} {n : Nat} {xs : List Value} (h : Chg L w w1) (ho : w.ownsRow base e s v n xs) (hb : ∀ g, v.ownBlock = some g → g ∉ L) : w1.ownsRow base e s v n xs := by
  refine ⟨ho.1, ?_⟩
  rcases ho.2 with h2 | ⟨g, cap, cur, rfl, hbg, hg, r⟩
  · exact .inl h2
  · refine .inr ⟨g, cap, cur, rfl, hbg, ?_, r⟩
    rw [h.block g (by rcases Nat.lt_or_ge g w.heap.size with hlt | hge; exact hlt; rw [Array.getElem?_eq_none hge] at hg; cases hg) (hb g rfl)]
    exact hg
theorem cell (h : Chg L w w1) {a : Addr} {v : Value} (hc : w.cell? a = some v) (ha : a.block ∉ L) : w1.cell? a = some v := by
  have hlt : a.block < w.heap.size := by
    rcases Nat.lt_or_ge a.block w.heap.size with hlt | hge
    · exact hlt
    · simp [World.cell?, Array.getElem?_eq_none hge] at hc
  rw [World.cell?_of_block (w := w) (h.block _ hlt ha)]
  exact hc
end Chg

/-- A store beside an owned row. -/
theorem own_setCell {w : World} {base : Nat} {e : TypeId} {s : Nat} {v : Value} {n : Nat} {xs : List Value} (ho : w.ownsRow base e s v n xs) (a : Addr) (u : Value) (ha : ∀ g, v.ownBlock = some g → g ≠ a.block) : (w.setCell a u).ownsRow base e s v n xs :=
  ((Chg.refl [a.block] w).setCell a u (fun _ => by simp)).own ho (fun g hg => by simpa using ha g hg)

/-- Rows of two element types are two rows. -/
theorem own_apart {w : World} {base base' : Nat} {e e' : TypeId} {s s' : Nat} {v v' : Value} {n n' : Nat} {xs xs' : List Value} (h : w.ownsRow base e s v n xs) (h' : w.ownsRow base' e' s' v' n' xs') (he : e ≠ e') {g : Nat} (hg : v.ownBlock = some g) : v'.ownBlock ≠ some g := by
  intro hg'
  rcases h.2 with ⟨rfl, _⟩ | ⟨g1, c1, cur1, rfl, _, hh1, _⟩
  · simp [Value.ownBlock] at hg
  · rcases h'.2 with ⟨rfl, _⟩ | ⟨g2, c2, cur2, rfl, _, hh2, _⟩
    · simp [Value.ownBlock] at hg'
    · simp [Value.ownBlock] at hg hg'
      subst hg
      subst hg'
      rw [hh1] at hh2
      injection hh2 with hh2
      injection hh2 with _ hh2
      exact he hh2
theorem own_row_apart {w : World} {base : Nat} {e : TypeId} {s : Nat} {v : Value} {n : Nat} {xs : List Value} {b t m : Nat} {f : Nat → Value} (h : w.ownsRow base e s v n xs) (hr : w.rowIs b t m f) (he : e ≠ t) : v.ownBlock ≠ some b := by
  intro hg
  rcases h.2 with ⟨rfl, _⟩ | ⟨g1, c1, cur1, rfl, _, hh1, _⟩
  · simp [Value.ownBlock] at hg
  · simp [Value.ownBlock] at hg
    subst hg
    obtain ⟨c, hc, _⟩ := hr
    rw [hh1] at hc
    injection hc with hc
    injection hc with _ hc
    exact he hc

/-! ### Rows of structs -/
section
variable {α : Type} (enc : α → List Value) (s : Nat)
def flat (xs : List α) : List Value := xs.flatMap enc
variable {enc s} (hs : ∀ x, (enc x).length = s)
theorem flat_nil : flat enc [] = [] := rfl
theorem flat_cons (x : α) (xs : List α) : flat enc (x :: xs) = enc x ++ flat enc xs := rfl
theorem flat_append (xs ys : List α) : flat enc (xs ++ ys) = flat enc xs ++ flat enc ys := by simp [flat]
theorem flat_one (x : α) : flat enc [x] = enc x := by simp [flat]
theorem flat_length (hs : ∀ x, (enc x).length = s) (xs : List α) : (flat enc xs).length = xs.length * s := by
  induction xs with
  | nil => simp [flat_nil]
  | cons x xs ih => rw [flat_cons, List.length_append, ih, hs, List.length_cons, Nat.succ_mul]; omega
theorem flat_get (hs : ∀ x, (enc x).length = s) (xs : List α) {i j : Nat} (hi : i < xs.length) (hj : j < s) : (flat enc xs)[i * s + j]? = (enc xs[i])[j]? := by
  induction xs generalizing i with
  | nil => simp at hi
  | cons x xs ih =>
    rw [flat_cons]
    cases i with
    | zero => simp [List.getElem?_append_left, hs, hj]
    | succ i =>
      rw [List.getElem?_append_right (by rw [hs, Nat.succ_mul]; omega), hs, show (i + 1) * s + j - s = i * s + j by rw [Nat.succ_mul]; omega]
      simpa using ih (by simpa using hi)
theorem flat_set (hs : ∀ x, (enc x).length = s) (xs : List α) {i j : Nat} (hi : i < xs.length) (hj : j < s) (v : Value) (x' : α) (he : enc x' = (enc xs[i]).set j v) : (flat enc xs).set (i * s + j) v = flat enc (xs.set i x') := by
  induction xs generalizing i with
  | nil => simp at hi
  | cons x xs ih =>
    cases i with
    | zero =>
      simp only [List.getElem_cons_zero] at he
      simp only [flat_cons, List.set_cons_zero, Nat.zero_mul, Nat.zero_add, he]
      rw [List.set_append_left _ _ (by rw [hs]; exact hj)]
    | succ i =>
      simp only [flat_cons, List.set_cons_succ]
      rw [List.set_append_right _ _ (by rw [hs, Nat.succ_mul]; omega), hs, show (i + 1) * s + j - s = i * s + j by rw [Nat.succ_mul]; omega]
      rw [ih (by simpa using hi) (by simpa using he)]
theorem flat_take (hs : ∀ x, (enc x).length = s) (xs : List α) (i : Nat) : (flat enc xs).take (i * s) = flat enc (xs.take i) := by
  induction xs generalizing i with
  | nil => simp [flat_nil]
  | cons x xs ih =>
    cases i with
    | zero => simp [flat_nil]
    | succ i =>
      rw [flat_cons, List.take_succ_cons, flat_cons, List.take_append, hs, show (i + 1) * s - s = i * s by rw [Nat.succ_mul]; omega, ih, List.take_of_length_le (by rw [hs, Nat.succ_mul]; omega)]
theorem flat_drop (hs : ∀ x, (enc x).length = s) (xs : List α) (i : Nat) : (flat enc xs).drop (i * s) = flat enc (xs.drop i) := by
  induction xs generalizing i with
  | nil => simp [flat_nil]
  | cons x xs ih =>
    cases i with
    | zero => simp
    | succ i =>
      rw [flat_cons, List.drop_succ_cons, List.drop_append, hs, show (i + 1) * s - s = i * s by rw [Nat.succ_mul]; omega, ih, List.drop_eq_nil_of_le (by rw [hs, Nat.succ_mul]; omega), List.nil_append]
end

end Go.Proofs.Ybulkdkwu.lawS5597AWhole
