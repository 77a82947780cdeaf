import Derived.Test.YbulkdkveRows
import Derived.WalkKit
import Derived.WalkLawsBesides
import Derived.ProofKit
import Derived.Deep.OwnRows
import Derived.Deep.LoopGhost
import Derived.Deep.DeepMust
namespace Go.Proofs.Ybulkdkve.lawS5594AWhole
open Go.RowKit Go.Deep
set_option linter.unusedVariables false

/-- The pointer to block b's head. -/
abbrev pt (b : Nat) : Value := .pointer (some ⟨b, 0, none⟩)

set_option maxHeartbeats 400000 in
theorem add_first (l q : Nat) (w : World) (hlq : l ≠ q)
    (h0 : w.cell? ⟨l, 0, none⟩ = some (.pointer none)) (h1 : w.cell? ⟨l, 1, none⟩ = some (.pointer none)) (h2 : w.cell? ⟨l, 2, none⟩ = some (.pointer none))
    (f0 : w.frozen? ⟨l, 0, none⟩ = false) (f1 : w.frozen? ⟨l, 1, none⟩ = false) (f2 : w.frozen? ⟨l, 2, none⟩ = false)
    (q18 : w.cell? ⟨q, 18, none⟩ = some (.pointer none)) (g18 : w.frozen? ⟨q, 18, none⟩ = false) :
    Calls Yba.prog 5 #[pt l, pt q] w fun e w' => e = .returned (.tuple #[]) ∧
      w' = (((w.setCell ⟨l, 2, none⟩ (pt q)).setCell ⟨q, 18, none⟩ (.pointer none)).setCell ⟨l, 0, none⟩ (pt q)).setCell ⟨l, 1, none⟩ (pt q) := by
  go_enter Yba.func5, Yba.ntmps5
  go_wp2
  go_end0
  exact ⟨rfl, rfl⟩

set_option maxHeartbeats 400000 in
theorem add_more (l q t : Nat) (u : Addr) (w : World) (hlq : l ≠ q) (hlt : l ≠ t) (htq : t ≠ q) (y0 y1 : Value)
    (h0 : w.cell? ⟨l, 1, none⟩ = some (pt t)) (h1 : w.cell? ⟨l, 2, none⟩ = some (.pointer (some u)))
    (f1 : w.frozen? ⟨l, 1, none⟩ = false) 
    (t19 : w.cell? ⟨t, 19, none⟩ = some (.pointer none)) (g19 : w.frozen? ⟨t, 19, none⟩ = false)
    (q18 : w.cell? ⟨q, 18, none⟩ = some (.pointer none)) (g18 : w.frozen? ⟨q, 18, none⟩ = false) :
    Calls Yba.prog 5 #[pt l, pt q] w fun e w' => e = .returned (.tuple #[]) ∧
      w' = ((w.setCell ⟨q, 18, none⟩ (pt t)).setCell ⟨t, 19, none⟩ (pt q)).setCell ⟨l, 1, none⟩ (pt q) := by
  go_enter Yba.func5, Yba.ntmps5
  go_wp2
  go_end0
  exact ⟨rfl, rfl⟩

theorem info24 : (Yba.prog.info? 24).map (fun i => (i.zero, i.size, i.bytes)) = some (some (.pointer none), 1, 8) := by kernel_rfl
end Go.Proofs.Ybulkdkve.lawS5594AWhole
