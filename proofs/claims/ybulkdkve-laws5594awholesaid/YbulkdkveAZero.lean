import Derived.Test.YbulkdkveAFin
import Derived.Deep.DeepCutAuto
namespace Go.Proofs.Ybulkdkve.lawS5594AWhole
open Go.RowKit Go.Deep
set_option linter.unusedVariables false
set_option linter.unusedSimpArgs false

/-- 'remove' of a request that was never added, the list empty. -/
theorem zero_rem (l q B : Nat) (W : World) (hlq : l ≠ q) (hl : B ≤ l) (hq : B ≤ q) (rl : W.rowIs l 26 3 (fun _ => .pointer none)) (rq' : W.rowIs q 33 20 (rq 0 none none)) :
    Calls Yba.prog 6 #[pt l, pt q] W fun e w' => e = .returned (.tuple #[]) ∧ w'.rowIs l 26 3 (fun _ => .pointer none) ∧ w'.rowIs q 33 20 (rq 0 none none) ∧ Below B W w' := by
  refine (rem_any l q none none none none none _ _ W hlq rl rq' (Lies.nil _) rfl rfl rfl rfl rfl (by intro b h; cases h) (by intro b h; cases h) (by intro a b h; cases h)).mono ?_
  rintro e w' ⟨rfl, d, rfl⟩
  have hR : remW l q none none none W = (((W.setCell ⟨l, 0, none⟩ (.pointer none)).setCell ⟨l, 1, none⟩ (.pointer none)).setCell ⟨q, 18, none⟩ (.pointer none)).setCell ⟨q, 19, none⟩ (.pointer none) := by simp [remW]
  rw [hR]
  refine ⟨rfl, ?_, ?_, ?_⟩
  · show World.rowIs ((((W.setCell ⟨l, 0, none⟩ (.pointer none)).setCell ⟨l, 1, none⟩ (.pointer none)).setCell ⟨q, 18, none⟩ (.pointer none)).setCell ⟨q, 19, none⟩ (.pointer none)) _ _ _ _
    refine ((((rl.set 0 _).set 1 _).setOther (by simpa using hlq) _).setOther (by simpa using hlq) _).congr fun i hi => by simp
  · show World.rowIs ((((W.setCell ⟨l, 0, none⟩ (.pointer none)).setCell ⟨l, 1, none⟩ (.pointer none)).setCell ⟨q, 18, none⟩ (.pointer none)).setCell ⟨q, 19, none⟩ (.pointer none)) _ _ _ _
    refine ((((rq'.setOther (by simp; omega) _).setOther (by simp; omega) _).set 18 _).set 19 _).congr fun i hi => by rw [rq_set18, rq_set19]
  · exact below_drewN (((((Below.refl B W).setCell (by simpa using hl) _).setCell (by simpa using hl) _).setCell (by simpa using hq) _).setCell (by simpa using hq) _) d

set_option maxRecDepth 100000 in
set_option maxHeartbeats 4000000 in
theorem walk_zero (a1 : Int) (a2 : Int) (w1 : 0 ≤ a1 ∧ a1 ≤ 65535) (w2 : 0 ≤ a2 ∧ a2 ≤ 65535) (w : World) :
    Calls Yba.prog 3 #[.int .u16 0, .int .u16 a1, .int .u16 a2] w fun e w' => e = .returned (.bool true) ∧ Below w.heap.size w w' := by
  have hmk : ∀ w, (Instr.makeSlice 23 (.int .i64 0) (.int .i64 0)).run Yba.prog w = .ok (.slice (some ⟨w.heap.size, 0, none⟩) 0 0) (w.alloc (.cells #[] 24)) := fun _ => by kernel_rfl
  obtain ⟨p1, p2⟩ := w1
  obtain ⟨p3, p4⟩ := w2
  have hm : a2 % 1 = 0 := by omega
  obtain ⟨B, hB⟩ : ∃ B, w.heap.size = B := ⟨_, rfl⟩
  have bW : Below B w ((((w.alloc (Obj.cells #[] 24)).alloc (Obj.cells #[Value.pointer none, Value.pointer none, Value.pointer none] 26)).alloc (Obj.cells (newCells 0) 33)).alloc (Obj.cells #[] 24)) := ((((Below.refl _ _).alloc (by omega) _).alloc (by simp; omega) _).alloc (by simp; omega) _).alloc (by simp; omega) _
  have lW : ((((w.alloc (Obj.cells #[] 24)).alloc (Obj.cells #[Value.pointer none, Value.pointer none, Value.pointer none] 26)).alloc (Obj.cells (newCells 0) 33)).alloc (Obj.cells #[] 24)).rowIs (B + 1) 26 3 (fun _ => .pointer none) := by
    have h := World.rowIs_alloc (w.alloc (Obj.cells #[] 24)) #[Value.pointer none, Value.pointer none, Value.pointer none] 26 (fun _ => .pointer none) (fun i hi => by
      match i, hi with
      | 0, _ | 1, _ | 2, _ => rfl)
    have h2 := (h.alloc (Obj.cells (newCells 0) 33)).alloc (Obj.cells #[] 24)
    simpa [hB] using h2
  have qW : ((((w.alloc (Obj.cells #[] 24)).alloc (Obj.cells #[Value.pointer none, Value.pointer none, Value.pointer none] 26)).alloc (Obj.cells (newCells 0) 33)).alloc (Obj.cells #[] 24)).rowIs (B + 1 + 1) 33 20 (rq 0 none none) := by
    have h := (new_row ((w.alloc (Obj.cells #[] 24)).alloc (Obj.cells #[Value.pointer none, Value.pointer none, Value.pointer none] 26)) 0).alloc (Obj.cells #[] 24)
    simpa [hB] using h
  have HW : Hid (Below B w ((((w.alloc (Obj.cells #[] 24)).alloc (Obj.cells #[Value.pointer none, Value.pointer none, Value.pointer none] 26)).alloc (Obj.cells (newCells 0) 33)).alloc (Obj.cells #[] 24)) ∧ ((((w.alloc (Obj.cells #[] 24)).alloc (Obj.cells #[Value.pointer none, Value.pointer none, Value.pointer none] 26)).alloc (Obj.cells (newCells 0) 33)).alloc (Obj.cells #[] 24)).rowIs (B + 1) 26 3 (fun _ => .pointer none) ∧ ((((w.alloc (Obj.cells #[] 24)).alloc (Obj.cells #[Value.pointer none, Value.pointer none, Value.pointer none] 26)).alloc (Obj.cells (newCells 0) 33)).alloc (Obj.cells #[] 24)).rowIs (B + 1 + 1) 33 20 (rq 0 none none)) := ⟨bW, lW, qW⟩
  clear bW lW qW
  go_enter Yba.func3, Yba.ntmps3
  go_wp2_with fail
  refine wp_loop_rounds 1 ?_
  rw [rounds_succ]
  go_wp2_with fail
  clear hmk
  refine wp_loop_rounds 1 ?_
  rw [rounds_succ]
  go_wp2_with fail
  refine (zero_rem (B + 1) (B + 1 + 1) B _ (by omega) (by omega) (by omega) HW.out.2.1 HW.out.2.2).mono ?_
  rintro e wf ⟨rfl, rl, rq', hb⟩
  have hbel := HW.out.1.trans hb
  have HB : Hid (w.heap.size = B) := hB
  clear HW hb hB
  have c18 := rq'.cell (i := 18) (by omega)
  have c19 := rq'.cell (i := 19) (by omega)
  simp only [rq, if_true, if_false, Nat.reduceEqDiff] at c18 c19
  have l0 := rl.cell (i := 0) (by omega)
  have l1 := rl.cell (i := 1) (by omega)
  have l2 := rl.cell (i := 2) (by omega)
  go_wp2_with fail
  refine wp_loop_rounds 1 ?_
  rw [rounds_succ]
  go_wp2_with fail
  refine wp_loop_rounds 1 ?_
  rw [rounds_succ]
  go_wp2_with fail
  go_ret
  exact ⟨rfl, by rw [HB.out]; exact hbel⟩
end Go.Proofs.Ybulkdkve.lawS5594AWhole
