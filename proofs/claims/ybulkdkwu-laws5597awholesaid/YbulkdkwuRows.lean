/-
  No cell of these rows narrows 'for every input' (looked for: loops, veiled, ifaces, maps, wideKeys, modest, calm, conditions, laid).
  DERIVED. THE GIVEN ROWS OF THIS SEAT. 1 by the template 'for every input the law returns true; each argument reads behind the call as it read before'; 0 by the template 'total and deterministic' (their statements: YbulkdkwuTotals.lean).
  GIVEN WITH THE SEED: the statements are not yours to turn. If you find one false, say at which input.
  Laid BY PROGRAM, IN A SANDBOX (cutbox-rows.mjs): the forced cells as the released guide's own fill.sh prints them over the translation 3526fa32a49d56e9… (all of the seat's roots in one cut). By AI agents, Wed Nov 11 2026. No macro, syntax, notation, axiom, sorry.
-/
import Derived.Test.YbulkdkwuChecked
import GoSem.Claim
import GoSem.ClaimJoined
import GoSem.ClaimMapViews
import Derived.JoinedTies
import Derived.KernelRfl
namespace Go.Proofs.Ybulkdkwu
/- THE CELL 'sum', in the pinned program and in every row, IS THE sha256 OF THE DUMP (.gsa) THAT YbulkdkwuProg.lean LOADS. Nothing in Lean hashes anything: it is a label: what it is worth is what the hold of that sum in a sandbox is worth. -/
noncomputable def Yba.pinned : Pinned := { name := "ybulkdkwu", sum := "3526fa32a49d56e9ec27ee7e9a357c84bd19356e368da497cbec1829c6e397de", checked := Yba.checked }
namespace Rows
def none {H : Type} : Left H := { results := [], args := [] }

/-- 'tree.LawS5597AWhole': WHATEVER THE INPUT: true; the input reads as it did. -/
def lawS5597AWholeSpec : ChangeSpec := { name := "lawS5597AWhole", fn := fun _ => fun
  | [d1, d2, d3, d4, d5, d6, d7, d8] => { results := [.lit (.bool true)], args := [d1, d2, d3, d4, d5, d6, d7, d8] }
  | _ => none }
def lawS5597AWholeRow : OpenClaim := { program := "ybulkdkwu", sum := "3526fa32a49d56e9ec27ee7e9a357c84bd19356e368da497cbec1829c6e397de", func := "example.com/hashwood/hashwood/tree.LawS5597AWhole", spec := "lawS5597AWhole", unfollowed := true, recurses := true, apart := false }
def LawS5597AWholeSaid : Prop := lawS5597AWholeRow.holds Yba.pinned (OpenSpec.ofChange lawS5597AWholeSpec)

/-- ITS FALSE NEIGHBOUR: 'it returns false'. Refute it at one input. -/
def lawS5597AWholeWrong : ChangeSpec := { name := "lawS5597AWhole", fn := fun _ => fun
  | [d1, d2, d3, d4, d5, d6, d7, d8] => { results := [.lit (.bool false)], args := [d1, d2, d3, d4, d5, d6, d7, d8] }
  | _ => none }
def LawS5597AWholeWrongFalsely : Prop := lawS5597AWholeRow.holds Yba.pinned (OpenSpec.ofChange lawS5597AWholeWrong)

end Rows
end Go.Proofs.Ybulkdkwu
