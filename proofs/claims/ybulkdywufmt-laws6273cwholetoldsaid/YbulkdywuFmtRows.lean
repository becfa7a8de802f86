/-
  No cell of these rows narrows 'for every input' (looked for: loops, veiled, ifaces, maps, wideKeys, modest, calm, conditions, laid).
  DERIVED. THE GIVEN ROWS OF THIS SEAT. 1 by the template 'for every input the law returns true; each argument reads behind the call as it read before'; 0 by the template 'total and deterministic' (their statements: YbulkdywuFmtTotals.lean).
  GIVEN WITH THE SEED: the statements are not yours to turn. If you find one false, say at which input.
  Laid BY PROGRAM, IN A SANDBOX (cutbox-rows.mjs): the forced cells as the released guide's own fill.sh prints them over the translation 09ebf6322ccf1a2b… (all of the seat's roots in one cut). By AI agents, Wed Nov 11 2026. No macro, syntax, notation, axiom, sorry.
-/
import Derived.Test.YbulkdywuFmtChecked
import GoSem.Claim
import GoSem.ClaimJoined
import GoSem.ClaimMapViews
import Derived.JoinedTies
import Derived.KernelRfl
namespace Go.Proofs.YbulkdywuFmt
/- THE CELL 'sum', in the pinned program and in every row, IS THE sha256 OF THE DUMP (.gsa) THAT YbulkdywuFmtProg.lean LOADS. Nothing in Lean hashes anything: it is a label: what it is worth is what the hold of that sum in a sandbox is worth. -/
noncomputable def Ybaf.pinned : Pinned := { name := "ybulkdywufmt", sum := "09ebf6322ccf1a2b74b79a564a1ab004947aaa0dc74f4c9b02bfa89c6796883b", checked := Ybaf.checked }
namespace Rows
def none {H : Type} : Left H := { results := [], args := [] }

/-- 'aggregator.LawS6273CWhole': WHATEVER THE INPUT: true; the input reads as it did. -/
def lawS6273CWholeSpec : ChangeSpec := { name := "lawS6273CWhole", fn := fun _ => fun
  | [d] => { results := [.lit (.bool true)], args := [d] }
  | _ => none }
def lawS6273CWholeRow : OpenClaim := { program := "ybulkdywufmt", sum := "09ebf6322ccf1a2b74b79a564a1ab004947aaa0dc74f4c9b02bfa89c6796883b", func := "example.com/tickfold/tickfold/aggregator.LawS6273CWhole", spec := "lawS6273CWhole", stops := ["fmt.Sprintf"], inPlace := ["fmt.Sprintf"], apart := false }
/-- NO THEOREM (fmt's text is open here; it may be false): for the released tool's asking of the row's closed facts alone. THE STATEMENT IS 'LawS6273CWholeToldSaid' (YbulkdywuFmtCards.lean). -/
def LawS6273CWholeFormAsk : Prop := lawS6273CWholeRow.holds Ybaf.pinned (OpenSpec.ofChange lawS6273CWholeSpec)

/-- ITS FALSE NEIGHBOUR: 'it returns false'. Refute it at one input. -/
def lawS6273CWholeWrong : ChangeSpec := { name := "lawS6273CWhole", fn := fun _ => fun
  | [d] => { results := [.lit (.bool false)], args := [d] }
  | _ => none }
def LawS6273CWholeWrongFormAsk : Prop := lawS6273CWholeRow.holds Ybaf.pinned (OpenSpec.ofChange lawS6273CWholeWrong)

end Rows
end Go.Proofs.YbulkdywuFmt
