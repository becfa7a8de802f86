/-
  No cell of these rows narrows 'for every input' (looked for: loops, veiled, ifaces, maps, wideKeys, modest, calm, conditions, laid).
  DERIVED. THE GIVEN ROWS OF THIS SEAT. 1 by the template 'for every input the law returns true; each argument reads behind the call as it read before'; 0 by the template 'total and deterministic' (their statements: YbulkdzaaTotals.lean).
  GIVEN WITH THE SEED: the statements are not yours to turn. If you find one false, say at which input.
  Laid BY PROGRAM, IN A SANDBOX (cutbox-rows.mjs): the forced cells as the released guide's own fill.sh prints them over the translation 3192ef804c16094f… (all of the seat's roots in one cut). By AI agents, Wed Nov 11 2026. No macro, syntax, notation, axiom, sorry.
-/
import Derived.Test.YbulkdzaaChecked
import GoSem.Claim
import GoSem.ClaimJoined
import GoSem.ClaimMapViews
import Derived.JoinedTies
import Derived.KernelRfl
namespace Go.Proofs.Ybulkdzaa
/- THE CELL 'sum', in the pinned program and in every row, IS THE sha256 OF THE DUMP (.gsa) THAT YbulkdzaaProg.lean LOADS. Nothing in Lean hashes anything: it is a label: what it is worth is what the hold of that sum in a sandbox is worth. -/
noncomputable def Yba.pinned : Pinned := { name := "ybulkdzaa", sum := "3192ef804c16094f4450f11061f386752f26fc995497539b6d5dc816e1dc219a", checked := Yba.checked }
namespace Rows
def none {H : Type} : Left H := { results := [], args := [] }

/-- 'sealwright.LawS6279AWhole': WHATEVER THE INPUT: true; the input reads as it did. -/
def lawS6279AWholeSpec : ChangeSpec := { name := "lawS6279AWhole", fn := fun _ => fun
  | [d1, d2] => { results := [.lit (.bool true)], args := [d1, d2] }
  | _ => none }
def lawS6279AWholeRow : OpenClaim := { program := "ybulkdzaa", sum := "3192ef804c16094f4450f11061f386752f26fc995497539b6d5dc816e1dc219a", func := "example.com/sealwright/sealwright.LawS6279AWhole", spec := "lawS6279AWhole", apart := false }
def LawS6279AWholeSaid : Prop := lawS6279AWholeRow.holds Yba.pinned (OpenSpec.ofChange lawS6279AWholeSpec)

/-- ITS FALSE NEIGHBOUR: 'it returns false'. Refute it at one input. -/
def lawS6279AWholeWrong : ChangeSpec := { name := "lawS6279AWhole", fn := fun _ => fun
  | [d1, d2] => { results := [.lit (.bool false)], args := [d1, d2] }
  | _ => none }
def LawS6279AWholeWrongFalsely : Prop := lawS6279AWholeRow.holds Yba.pinned (OpenSpec.ofChange lawS6279AWholeWrong)

end Rows
end Go.Proofs.Ybulkdzaa
