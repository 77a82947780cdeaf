import Derived.Test.YbulkdkveAAdd
namespace Go.Proofs.Ybulkdkve.lawS5594AWhole
open Go.RowKit Go.Deep
set_option linter.unusedVariables false

/-- A new request's cells, its order k. -/
abbrev newCells (k : Nat) : Array Value :=
  #[Value.pointer none, Value.pointer none, Value.int IntKind.u8 0, Value.int IntKind.u8 0,
    Value.int IntKind.u8 0, Value.int IntKind.u8 0, Value.bool false, Value.bool false, Value.bool false,
    Value.int IntKind.i32 0, Value.int IntKind.i32 0, Value.pointer none, Value.pointer none,
    Value.pointer none, Value.int IntKind.u64 0, Value.int IntKind.u64 0, Value.int IntKind.i64 0,
    Value.int IntKind.u64 ↑k, Value.pointer none, Value.pointer none]

/-- The cells of request j, its neighbours' pointers e and s. -/
def rq (j : Nat) (e s : Option Addr) (i : Nat) : Value :=
  if i = 18 then .pointer e else if i = 19 then .pointer s else (newCells j)[i]?.getD undef

/-- The neighbour ahead of request j; the one behind it, of k. -/
def ahead (B j : Nat) : Option Addr := if j = 0 then none else some ⟨B + 2 + (j - 1), 0, none⟩
def behind (B k j : Nat) : Option Addr := if j + 1 < k then some ⟨B + 2 + (j + 1), 0, none⟩ else none
def lrow (B k i : Nat) : Value := if k = 0 then .pointer none else if i = 1 then pt (B + 2 + (k - 1)) else pt (B + 2)

/-- BEHIND k ROUNDS: k requests, in their order. -/
structure St (B n k : Nat) (w wr : World) : Prop where
  reqs : wr.rowIs B 24 n (fun i => if i < k then pt (B + 2 + i) else .pointer none)
  l : wr.rowIs (B + 1) 26 3 (lrow B k)
  req : ∀ j, j < k → wr.rowIs (B + 2 + j) 33 20 (rq j (ahead B j) (behind B k j))
  size : wr.heap.size = B + 2 + k
  bel : Below B w wr

theorem new_row (w : World) (k : Nat) : (w.alloc (.cells (newCells k) 33)).rowIs w.heap.size 33 20 (rq k none none) := by
  refine World.rowIs_alloc w (newCells k) 33 _ fun i hi => ?_
  simp only [newCells, List.size_toArray, List.length_cons, List.length_nil] at hi
  match i, hi with
  | 0, _ | 1, _ | 2, _ | 3, _ | 4, _ | 5, _ | 6, _ | 7, _ | 8, _ | 9, _ | 10, _ | 11, _ | 12, _ | 13, _ | 14, _ | 15, _ | 16, _ | 17, _ | 18, _ | 19, _ => rfl
  | n + 20, h => omega

theorem add_step {B n k : Nat} {w wr : World} (hS : St B n k w wr) (hlt : k < n) :
    Calls Yba.prog 5 #[pt (B + 1), pt wr.heap.size] ((wr.alloc (.cells (newCells k) 33)).setCell ⟨B, k, none⟩ (pt wr.heap.size)) fun e w' => e = .returned (.tuple #[]) ∧ St B n (k + 1) w w' := by
  have hsz := hS.size
  have r1 := (hS.reqs.alloc (.cells (newCells k) 33)).set k (pt wr.heap.size)
  have l1 := (hS.l.alloc (.cells (newCells k) 33)).setOther (a := ⟨B, k, none⟩) (by simp) (pt wr.heap.size)
  have q1 := (new_row wr k).setOther (a := ⟨B, k, none⟩) (by simp <;> omega) (pt wr.heap.size)
  have o1 : ∀ j, j < k → ((wr.alloc (.cells (newCells k) 33)).setCell ⟨B, k, none⟩ (pt wr.heap.size)).rowIs (B + 2 + j) 33 20 (rq j (ahead B j) (behind B k j)) := fun j hj => ((hS.req j hj).alloc _).setOther (by simp <;> omega) _
  have b1 := (hS.bel.alloc (by omega) (.cells (newCells k) 33)).setCell (p := ⟨B, k, none⟩) (by simp) (pt wr.heap.size)
  have s1 : ((wr.alloc (.cells (newCells k) 33)).setCell ⟨B, k, none⟩ (pt wr.heap.size)).heap.size = B + 2 + (k + 1) := by simp [World.setCell]; omega
  generalize (wr.alloc (.cells (newCells k) 33)).setCell ⟨B, k, none⟩ (pt wr.heap.size) = W at *
  rw [hsz] at q1 r1 ⊢
  have q18 := q1.cell (i := 18) (by omega)
  have l1' := l1
  by_cases h0 : k = 0
  · subst h0
    refine (add_first (B + 1) (B + 2 + 0) W (by omega) (l1.cell (i := 0) (by omega)) (l1.cell (i := 1) (by omega)) (l1.cell (i := 2) (by omega)) (l1.frozen _) (l1.frozen _) (l1.frozen _) q18 (q1.frozen _)).mono ?_
    rintro e w' ⟨rfl, rfl⟩
    refine ⟨rfl, ?_, ?_, ?_, by simpa [World.setCell] using s1, (((b1.setCell (by simp) _).setCell (by simp <;> omega) _).setCell (by simp) _).setCell (by simp) _⟩
    · refine ((((r1.setOther (by simp) _).setOther (by simp <;> omega) _).setOther (by simp) _).setOther (by simp) _).congr fun i hi => ?_
      by_cases e : i = 0
      · simp [e]
      · simp [e]
    · refine ((((l1.set 2 _).setOther (by simp) _).set 0 _).set 1 _).congr fun i hi => ?_
      match i, hi with
      | 0, _ | 1, _ | 2, _ => simp [lrow]
    · intro j hj
      obtain rfl : j = 0 := by omega
      refine ((((q1.setOther (by simp) _).set 18 _).setOther (by simp) _).setOther (by simp) _).congr fun i hi => ?_
      by_cases e : i = 18
      · simp [e, rq, ahead]
      · simp [e, rq, behind]
  · have t1 := o1 (k - 1) (by omega)
    have c1 := l1.cell (i := 1) (by omega)
    have c2 := l1.cell (i := 2) (by omega)
    have t19 := t1.cell (i := 19) (by omega)
    simp only [lrow, h0] at c1 c2
    simp [rq, behind, show ¬ k - 1 + 1 < k by omega] at t19
    refine (add_more (B + 1) (B + 2 + k) (B + 2 + (k - 1)) ⟨B + 2, 0, none⟩ W (by omega) (by omega) (by omega) undef undef c1 c2 (l1.frozen _) t19 (t1.frozen _) q18 (q1.frozen _)).mono ?_
    rintro e w' ⟨rfl, rfl⟩
    refine ⟨rfl, ?_, ?_, ?_, by simpa [World.setCell] using s1, ((b1.setCell (by simp <;> omega) _).setCell (by simp <;> omega) _).setCell (by simp) _⟩
    · refine (((r1.setOther (by simp <;> omega) _).setOther (by simp <;> omega) _).setOther (by simp) _).congr fun i hi => ?_
      by_cases e : i = k
      · simp [e]
      · by_cases e' : i < k
        · simp [e, e', show i < k + 1 by omega]
        · simp [e, e', show ¬ i < k + 1 by omega]
    · refine (((l1.setOther (by simp <;> omega) _).setOther (by simp <;> omega) _).set 1 _).congr fun i hi => ?_
      match i, hi with
      | 0, _ | 1, _ | 2, _ => simp [lrow, h0]
    · intro j hj
      by_cases ej : j = k
      · subst ej
        refine (((q1.set 18 _).setOther (by simp <;> omega) _).setOther (by simp <;> omega) _).congr fun i hi => ?_
        by_cases e : i = 18
        · simp [e, rq, ahead, h0]
        · simp [e, rq, behind]
      · by_cases ej' : j = k - 1
        · subst ej'
          refine (((t1.setOther (by simp <;> omega) _).set 19 _).setOther (by simp <;> omega) _).congr fun i hi => ?_
          by_cases e : i = 19
          · simp [e, rq, behind, show k - 1 + 1 < k + 1 by omega, show B + 2 + k = B + 2 + (k - 1 + 1) by omega]
          · simp [e, rq]
        · refine ((((o1 j (by omega)).setOther (by simp <;> omega) _).setOther (by simp <;> omega) _).setOther (by simp <;> omega) _).congr fun i hi => ?_
          simp [rq, behind, show j + 1 < k + 1 by omega, show j + 1 < k by omega]

end Go.Proofs.Ybulkdkve.lawS5594AWhole
