/-
  No cell of these rows narrows 'for every input' (looked for: loops, veiled, ifaces, maps, wideKeys, modest, calm, conditions, laid).
  DERIVED. THE GIVEN ROWS OF THIS SEAT. 1 by the template 'for every input the law returns true; each argument reads behind the call as it read before'; 0 by the template 'total and deterministic' (their statements: YbulkdywuTotals.lean).
  GIVEN WITH THE SEED: the statements are not yours to turn. If you find one false, say at which input.
  Laid BY PROGRAM, IN A SANDBOX (cutbox-rows.mjs): the forced cells as the released guide's own fill.sh prints them over the translation e74aa0f5e350006b… (all of the seat's roots in one cut). By AI agents, Wed Nov 11 2026. No macro, syntax, notation, axiom, sorry.
-/
import Derived.Test.YbulkdywuChecked
import GoSem.Claim
import GoSem.ClaimJoined
import GoSem.ClaimMapViews
import Derived.JoinedTies
import Derived.KernelRfl
namespace Go.Proofs.Ybulkdywu
/- THE CELL 'sum', in the pinned program and in every row, IS THE sha256 OF THE DUMP (.gsa) THAT YbulkdywuProg.lean LOADS. Nothing in Lean hashes anything: it is a label: what it is worth is what the hold of that sum in a sandbox is worth. -/
noncomputable def Yba.pinned : Pinned := { name := "ybulkdywu", sum := "e74aa0f5e350006b26d85860e37d1112896844ab2b1bcfb21ca6b6db5a591e3d", checked := Yba.checked }
namespace Rows
def none {H : Type} : Left H := { results := [], args := [] }

/-- 'aggregator.LawS6273AWhole': WHATEVER THE INPUT: true; the input reads as it did. -/
def lawS6273AWholeSpec : ChangeSpec := { name := "lawS6273AWhole", fn := fun _ => fun
  | [d1, d2, d3] => { results := [.lit (.bool true)], args := [d1, d2, d3] }
  | _ => none }
def lawS6273AWholeRow : OpenClaim := { program := "ybulkdywu", sum := "e74aa0f5e350006b26d85860e37d1112896844ab2b1bcfb21ca6b6db5a591e3d", func := "example.com/tickfold/tickfold/aggregator.LawS6273AWhole", spec := "lawS6273AWhole", named := ["encoding/binary.BigEndian"], apart := false }
def LawS6273AWholeSaid : Prop := lawS6273AWholeRow.holds Yba.pinned (OpenSpec.ofChange lawS6273AWholeSpec)

/-- ITS FALSE NEIGHBOUR: 'it returns false'. Refute it at one input. -/
def lawS6273AWholeWrong : ChangeSpec := { name := "lawS6273AWhole", fn := fun _ => fun
  | [d1, d2, d3] => { results := [.lit (.bool false)], args := [d1, d2, d3] }
  | _ => none }
def LawS6273AWholeWrongFalsely : Prop := lawS6273AWholeRow.holds Yba.pinned (OpenSpec.ofChange lawS6273AWholeWrong)

end Rows
end Go.Proofs.Ybulkdywu
