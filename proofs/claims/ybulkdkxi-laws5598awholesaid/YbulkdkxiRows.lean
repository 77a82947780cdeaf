/-
  No cell of these rows narrows 'for every input' (looked for: loops, veiled, ifaces, maps, wideKeys, modest, calm, conditions, laid).
  DERIVED. THE GIVEN ROWS OF THIS SEAT. 1 by the template 'for every input the law returns true; each argument reads behind the call as it read before'; 0 by the template 'total and deterministic' (their statements: YbulkdkxiTotals.lean).
  GIVEN WITH THE SEED: the statements are not yours to turn. If you find one false, say at which input.
  Laid BY PROGRAM, IN A SANDBOX (cutbox-rows.mjs): the forced cells as the released guide's own fill.sh prints them over the translation 0afaae7d0ac37bca… (all of the seat's roots in one cut). By AI agents, Wed Nov 11 2026. No macro, syntax, notation, axiom, sorry.
-/
import Derived.Test.YbulkdkxiChecked
import GoSem.Claim
import GoSem.ClaimJoined
import GoSem.ClaimMapViews
import Derived.JoinedTies
import Derived.KernelRfl
namespace Go.Proofs.Ybulkdkxi
/- THE CELL 'sum', in the pinned program and in every row, IS THE sha256 OF THE DUMP (.gsa) THAT YbulkdkxiProg.lean LOADS. Nothing in Lean hashes anything: it is a label: what it is worth is what the hold of that sum in a sandbox is worth. -/
noncomputable def Yba.pinned : Pinned := { name := "ybulkdkxi", sum := "0afaae7d0ac37bcaf2affe97d124a5765d9245616e16c06474daaf0ecdb4c0b3", checked := Yba.checked }
namespace Rows
def none {H : Type} : Left H := { results := [], args := [] }

/-- 'ccr.LawS5598AWhole': WHATEVER THE INPUT: true; the input reads as it did. -/
def lawS5598AWholeSpec : ChangeSpec := { name := "lawS5598AWhole", fn := fun _ => fun
  | [d1, d2, d3, d4] => { results := [.lit (.bool true)], args := [d1, d2, d3, d4] }
  | _ => none }
def lawS5598AWholeRow : OpenClaim := { program := "ybulkdkxi", sum := "0afaae7d0ac37bcaf2affe97d124a5765d9245616e16c06474daaf0ecdb4c0b3", func := "example.com/sealwright/sealwright/ccr.LawS5598AWhole", spec := "lawS5598AWhole", unfollowed := true, recurses := true, apart := false }
def LawS5598AWholeSaid : Prop := lawS5598AWholeRow.holds Yba.pinned (OpenSpec.ofChange lawS5598AWholeSpec)

/-- ITS FALSE NEIGHBOUR: 'it returns false'. Refute it at one input. -/
def lawS5598AWholeWrong : ChangeSpec := { name := "lawS5598AWhole", fn := fun _ => fun
  | [d1, d2, d3, d4] => { results := [.lit (.bool false)], args := [d1, d2, d3, d4] }
  | _ => none }
def LawS5598AWholeWrongFalsely : Prop := lawS5598AWholeRow.holds Yba.pinned (OpenSpec.ofChange lawS5598AWholeWrong)

end Rows
end Go.Proofs.Ybulkdkxi
