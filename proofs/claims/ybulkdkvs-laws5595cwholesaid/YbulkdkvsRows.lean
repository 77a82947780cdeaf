/-
  No cell of these rows narrows 'for every input' (looked for: loops, veiled, ifaces, maps, wideKeys, modest, calm, conditions, laid).
  DERIVED. THE GIVEN ROWS OF THIS SEAT. 1 by the template 'for every input the law returns true; each argument reads behind the call as it read before'; 0 by the template 'total and deterministic' (their statements: YbulkdkvsTotals.lean).
  GIVEN WITH THE SEED: the statements are not yours to turn. If you find one false, say at which input.
  Laid BY PROGRAM, IN A SANDBOX (cutbox-rows.mjs): the forced cells as the released guide's own fill.sh prints them over the translation 0031381fe3af74c0… (all of the seat's roots in one cut). By AI agents, Wed Nov 11 2026. No macro, syntax, notation, axiom, sorry.
-/
import Derived.Test.YbulkdkvsChecked
import GoSem.Claim
import GoSem.ClaimJoined
import GoSem.ClaimMapViews
import Derived.JoinedTies
import Derived.KernelRfl
namespace Go.Proofs.Ybulkdkvs
/- THE CELL 'sum', in the pinned program and in every row, IS THE sha256 OF THE DUMP (.gsa) THAT YbulkdkvsProg.lean LOADS. Nothing in Lean hashes anything: it is a label: what it is worth is what the hold of that sum in a sandbox is worth. -/
noncomputable def Yba.pinned : Pinned := { name := "ybulkdkvs", sum := "0031381fe3af74c084881c07106ca68f9fc67be27499f05c26e3ac0942c7b9ea", checked := Yba.checked }
namespace Rows
def none {H : Type} : Left H := { results := [], args := [] }

/-- 'evenkeel.LawS5595CWhole': WHATEVER THE INPUT: true; the input reads as it did. -/
def lawS5595CWholeSpec : ChangeSpec := { name := "lawS5595CWhole", fn := fun _ => fun
  | [d1, d2] => { results := [.lit (.bool true)], args := [d1, d2] }
  | _ => none }
def lawS5595CWholeRow : OpenClaim := { program := "ybulkdkvs", sum := "0031381fe3af74c084881c07106ca68f9fc67be27499f05c26e3ac0942c7b9ea", func := "example.com/evenkeel/evenkeel.LawS5595CWhole", spec := "lawS5595CWhole", unfollowed := true, recurses := true, apart := false }
def LawS5595CWholeSaid : Prop := lawS5595CWholeRow.holds Yba.pinned (OpenSpec.ofChange lawS5595CWholeSpec)

/-- ITS FALSE NEIGHBOUR: 'it returns false'. Refute it at one input. -/
def lawS5595CWholeWrong : ChangeSpec := { name := "lawS5595CWhole", fn := fun _ => fun
  | [d1, d2] => { results := [.lit (.bool false)], args := [d1, d2] }
  | _ => none }
def LawS5595CWholeWrongFalsely : Prop := lawS5595CWholeRow.holds Yba.pinned (OpenSpec.ofChange lawS5595CWholeWrong)

end Rows
end Go.Proofs.Ybulkdkvs
