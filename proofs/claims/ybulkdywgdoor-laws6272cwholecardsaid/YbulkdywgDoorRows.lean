/-
  NARROWER THAN 'FOR EVERY INPUT', by the rows' own cells (each row's printed sentence says how): LawS6272CWhole: laid.
  DERIVED. THE GIVEN ROWS OF THIS SEAT. 1 by the template 'for every input the law returns true; each argument reads behind the call as it read before'; 0 by the template 'total and deterministic' (their statements: YbulkdywgDoorTotals.lean).
  GIVEN WITH THE SEED: the statements are not yours to turn. If you find one false, say at which input.
  Laid BY PROGRAM, IN A SANDBOX (cutbox-rows.mjs): the forced cells as the released guide's own fill.sh prints them over the translation 4660210cc8648313… (all of the seat's roots in one cut). By AI agents, Wed Nov 11 2026. No macro, syntax, notation, axiom, sorry.
-/
import Derived.Test.YbulkdywgDoorChecked
import GoSem.Claim
import GoSem.ClaimJoined
import GoSem.ClaimMapViews
import Derived.JoinedTies
import Derived.KernelRfl
namespace Go.Proofs.YbulkdywgDoor
/- THE CELL 'sum', in the pinned program and in every row, IS THE sha256 OF THE DUMP (.gsa) THAT YbulkdywgDoorProg.lean LOADS. Nothing in Lean hashes anything: it is a label: what it is worth is what the hold of that sum in a sandbox is worth. -/
noncomputable def Ybad.pinned : Pinned := { name := "ybulkdywgdoor", sum := "4660210cc8648313b6b920d77a0f63b4089645f6c658e85ae503c2bbd314ea60", checked := Ybad.checked }
namespace Rows
def none {H : Type} : Left H := { results := [], args := [] }

/- WHAT THE LISTED PACKAGE-LEVEL VARIABLES READ AS WHEN THE CALL BEGINS. Each datum BY PROGRAM (the guide's laid-datum.mjs) off the statement by which the dump's own 'gosem.cut.vars' lays the variable. In a bare row this is a premise. The card (YbulkdywgDoorCards.lean) ties it to the program's text. -/
def laid_example_com_redoubt_redoubt_internal_protocol_kinds {H : Type} : DataW H := .agg [.agg [.lit (.int .u8 0), .lit (.bool false), .lit (.bool false)], .agg [.lit (.int .u8 3), .lit (.bool false), .lit (.bool false)], .agg [.lit (.int .u8 4), .lit (.bool false), .lit (.bool true)], .agg [.lit (.int .u8 0), .lit (.bool true), .lit (.bool false)], .agg [.lit (.int .u8 0), .lit (.bool true), .lit (.bool true)], .agg [.lit (.int .u8 0), .lit (.bool false), .lit (.bool false)], .agg [.lit (.int .u8 0), .lit (.bool false), .lit (.bool false)], .agg [.lit (.int .u8 0), .lit (.bool false), .lit (.bool false)], .agg [.lit (.int .u8 0), .lit (.bool false), .lit (.bool false)], .agg [.lit (.int .u8 0), .lit (.bool false), .lit (.bool false)], .agg [.lit (.int .u8 11), .lit (.bool false), .lit (.bool false)], .agg [.lit (.int .u8 0), .lit (.bool true), .lit (.bool false)], .agg [.lit (.int .u8 0), .lit (.bool false), .lit (.bool false)]]

/-- 'protocol.LawS6272CWhole': WHATEVER THE INPUT: true; the input reads as it did. -/
def lawS6272CWholeSpec : ChangeSpec := { name := "lawS6272CWhole", vars := ["example.com/redoubt/redoubt/internal/protocol.kinds"], fn := fun _ => fun
  | [d1, d2, d3, d4, d5, g1] => { results := [.lit (.bool true)], args := [d1, d2, d3, d4, d5], vars := [g1] }
  | _ => none }
def lawS6272CWholeRow : OpenClaim := { program := "ybulkdywgdoor", sum := "4660210cc8648313b6b920d77a0f63b4089645f6c658e85ae503c2bbd314ea60", func := "example.com/redoubt/redoubt/internal/protocol.LawS6272CWhole", spec := "lawS6272CWhole", unfollowed := true, recurses := true, named := ["example.com/redoubt/redoubt/internal/protocol.kinds"], plainKeys := false, apart := false, laid := [("example.com/redoubt/redoubt/internal/protocol.kinds", laid_example_com_redoubt_redoubt_internal_protocol_kinds)] }
def LawS6272CWholeSaid : Prop := lawS6272CWholeRow.holds Ybad.pinned (OpenSpec.ofChange lawS6272CWholeSpec)

/-- ITS FALSE NEIGHBOUR: 'it returns false'. Refute it at one input. -/
def lawS6272CWholeWrong : ChangeSpec := { name := "lawS6272CWhole", vars := ["example.com/redoubt/redoubt/internal/protocol.kinds"], fn := fun _ => fun
  | [d1, d2, d3, d4, d5, g1] => { results := [.lit (.bool false)], args := [d1, d2, d3, d4, d5], vars := [g1] }
  | _ => none }
def LawS6272CWholeWrongFalsely : Prop := lawS6272CWholeRow.holds Ybad.pinned (OpenSpec.ofChange lawS6272CWholeWrong)

end Rows
end Go.Proofs.YbulkdywgDoor
