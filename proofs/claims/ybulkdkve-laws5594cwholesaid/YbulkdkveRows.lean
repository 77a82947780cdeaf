/-
  No cell of these rows narrows 'for every input' (looked for: loops, veiled, ifaces, maps, wideKeys, modest, calm, conditions, laid).
  DERIVED. THE GIVEN ROWS OF THIS SEAT. 2 by the template 'for every input the law returns true; each argument reads behind the call as it read before'; 0 by the template 'total and deterministic' (their statements: YbulkdkveTotals.lean).
  GIVEN WITH THE SEED: the statements are not yours to turn. If you find one false, say at which input.
  Laid BY PROGRAM, IN A SANDBOX (cutbox-rows.mjs): the forced cells as the released guide's own fill.sh prints them over the translation f6849308777033f3… (all of the seat's roots in one cut). By AI agents, Wed Nov 11 2026. No macro, syntax, notation, axiom, sorry.
-/
import Derived.Test.YbulkdkveChecked
import GoSem.Claim
import GoSem.ClaimJoined
import GoSem.ClaimMapViews
import Derived.JoinedTies
import Derived.KernelRfl
namespace Go.Proofs.Ybulkdkve
/- THE CELL 'sum', in the pinned program and in every row, IS THE sha256 OF THE DUMP (.gsa) THAT YbulkdkveProg.lean LOADS. Nothing in Lean hashes anything: it is a label: what it is worth is what the hold of that sum in a sandbox is worth. -/
noncomputable def Yba.pinned : Pinned := { name := "ybulkdkve", sum := "f6849308777033f35e96b41633a7bb1072b891918e86a1f41c8b5ed5de726d1d", checked := Yba.checked }
namespace Rows
def none {H : Type} : Left H := { results := [], args := [] }

/-- 'lock.LawS5594AWhole': WHATEVER THE INPUT: true; the input reads as it did. -/
def lawS5594AWholeSpec : ChangeSpec := { name := "lawS5594AWhole", fn := fun _ => fun
  | [d1, d2, d3] => { results := [.lit (.bool true)], args := [d1, d2, d3] }
  | _ => none }
def lawS5594AWholeRow : OpenClaim := { program := "ybulkdkve", sum := "f6849308777033f35e96b41633a7bb1072b891918e86a1f41c8b5ed5de726d1d", func := "example.com/waitgraph/waitgraph/internal/lock.LawS5594AWhole", spec := "lawS5594AWhole", apart := false }
def LawS5594AWholeSaid : Prop := lawS5594AWholeRow.holds Yba.pinned (OpenSpec.ofChange lawS5594AWholeSpec)

/-- ITS FALSE NEIGHBOUR: 'it returns false'. Refute it at one input. -/
def lawS5594AWholeWrong : ChangeSpec := { name := "lawS5594AWhole", fn := fun _ => fun
  | [d1, d2, d3] => { results := [.lit (.bool false)], args := [d1, d2, d3] }
  | _ => none }
def LawS5594AWholeWrongFalsely : Prop := lawS5594AWholeRow.holds Yba.pinned (OpenSpec.ofChange lawS5594AWholeWrong)

/-- 'lock.LawS5594CWhole': WHATEVER THE INPUT: true; the input reads as it did. -/
def lawS5594CWholeSpec : ChangeSpec := { name := "lawS5594CWhole", fn := fun _ => fun
  | [d1, d2, d3, d4, d5, d6, d7, d8, d9, d10] => { results := [.lit (.bool true)], args := [d1, d2, d3, d4, d5, d6, d7, d8, d9, d10] }
  | _ => none }
def lawS5594CWholeRow : OpenClaim := { program := "ybulkdkve", sum := "f6849308777033f35e96b41633a7bb1072b891918e86a1f41c8b5ed5de726d1d", func := "example.com/waitgraph/waitgraph/internal/lock.LawS5594CWhole", spec := "lawS5594CWhole", inPlace := ["slices.overlaps[example.com/waitgraph/waitgraph/internal/lock.heldLock]", "slices.overlaps[example.com/waitgraph/waitgraph/internal/lock.holding]"], unfollowed := true, recurses := true, apart := false }
def LawS5594CWholeSaid : Prop := lawS5594CWholeRow.holds Yba.pinned (OpenSpec.ofChange lawS5594CWholeSpec)

/-- ITS FALSE NEIGHBOUR: 'it returns false'. Refute it at one input. -/
def lawS5594CWholeWrong : ChangeSpec := { name := "lawS5594CWhole", fn := fun _ => fun
  | [d1, d2, d3, d4, d5, d6, d7, d8, d9, d10] => { results := [.lit (.bool false)], args := [d1, d2, d3, d4, d5, d6, d7, d8, d9, d10] }
  | _ => none }
def LawS5594CWholeWrongFalsely : Prop := lawS5594CWholeRow.holds Yba.pinned (OpenSpec.ofChange lawS5594CWholeWrong)

end Rows
end Go.Proofs.Ybulkdkve
