/-
  NARROWER THAN 'FOR EVERY INPUT', by the rows' own cells (each row's printed sentence says how): LawS6277BWhole: laid.
  DERIVED. THE GIVEN ROWS OF THIS SEAT. 2 by the template 'for every input the law returns true; each argument reads behind the call as it read before'; 0 by the template 'total and deterministic' (their statements: YbulkdyyyFmtTotals.lean).
  GIVEN WITH THE SEED: the statements are not yours to turn. If you find one false, say at which input.
  Laid BY PROGRAM, IN A SANDBOX (cutbox-rows.mjs): the forced cells as the released guide's own fill.sh prints them over the translation 1fffe185c172a898… (all of the seat's roots in one cut). By AI agents, Wed Nov 11 2026. No macro, syntax, notation, axiom, sorry.
-/
import Derived.Test.YbulkdyyyFmtChecked
import GoSem.PinnedTables
import GoSem.Claim
import GoSem.ClaimJoined
import GoSem.ClaimMapViews
import Derived.JoinedTies
import Derived.KernelRfl
namespace Go.Proofs.YbulkdyyyFmt
/- THE CELL 'sum', in the pinned program and in every row, IS THE sha256 OF THE DUMP (.gsa) THAT YbulkdyyyFmtProg.lean LOADS. Nothing in Lean hashes anything: it is a label: what it is worth is what the hold of that sum in a sandbox is worth. -/
noncomputable def Ybaf.pinned : Pinned := { name := "ybulkdyyyfmt", sum := "1fffe185c172a89821fc9fc565e19134673c3fdcf407ccb601db0e8055a658be", checked := Ybaf.checked }
namespace Rows
def none {H : Type} : Left H := { results := [], args := [] }

/- WHAT THE LISTED PACKAGE-LEVEL VARIABLES READ AS WHEN THE CALL BEGINS. Each datum BY PROGRAM (the guide's laid-datum.mjs) off the statement by which the dump's own 'gosem.cut.vars' lays the variable. In a bare row this is a premise. The card (YbulkdyyyFmtCards.lean) ties it to the program's text. -/
def laid_unicode_utf8_acceptRanges {H : Type} : DataW H := .agg [.agg [.lit (.int .u8 128), .lit (.int .u8 191)], .agg [.lit (.int .u8 160), .lit (.int .u8 191)], .agg [.lit (.int .u8 128), .lit (.int .u8 159)], .agg [.lit (.int .u8 144), .lit (.int .u8 191)], .agg [.lit (.int .u8 128), .lit (.int .u8 143)], .agg [.lit (.int .u8 0), .lit (.int .u8 0)], .agg [.lit (.int .u8 0), .lit (.int .u8 0)], .agg [.lit (.int .u8 0), .lit (.int .u8 0)], .agg [.lit (.int .u8 0), .lit (.int .u8 0)], .agg [.lit (.int .u8 0), .lit (.int .u8 0)], .agg [.lit (.int .u8 0), .lit (.int .u8 0)], .agg [.lit (.int .u8 0), .lit (.int .u8 0)], .agg [.lit (.int .u8 0), .lit (.int .u8 0)], .agg [.lit (.int .u8 0), .lit (.int .u8 0)], .agg [.lit (.int .u8 0), .lit (.int .u8 0)], .agg [.lit (.int .u8 0), .lit (.int .u8 0)]]
/-- One of Go's own tables, pinned by name: the form's constant. -/
def laid_unicode_utf8_first : DataW Unit := Go.Pinned.utf8First

/-- 'cli.LawS6277BWhole': WHATEVER THE INPUT: true; the input reads as it did. -/
def lawS6277BWholeSpec : ChangeSpec := { name := "lawS6277BWhole", fn := fun _ => fun
  | [d1, d2, d3, d4] => { results := [.lit (.bool true)], args := [d1, d2, d3, d4] }
  | _ => none }
def lawS6277BWholeRow : OpenClaim := { program := "ybulkdyyyfmt", sum := "1fffe185c172a89821fc9fc565e19134673c3fdcf407ccb601db0e8055a658be", func := "example.com/palimpsest/palimpsest/internal/cli.LawS6277BWhole", spec := "lawS6277BWhole", stops := ["fmt.errorf", "fmt.Sprintf"], inPlace := ["internal/bytealg.CountString", "internal/bytealg.IndexByteString", "internal/bytealg.IndexString", "fmt.errorf"], unfollowed := true, recurses := true, named := ["unicode/utf8.first", "unicode/utf8.acceptRanges", "internal/bytealg.MaxLen"], plainKeys := false, apart := false, laid := [("unicode/utf8.acceptRanges", laid_unicode_utf8_acceptRanges), ("unicode/utf8.first", laid_unicode_utf8_first)] }
/-- NO THEOREM (fmt's text is open here; it may be false): for the released tool's asking of the row's closed facts alone. THE STATEMENT IS 'LawS6277BWholeToldSaid' (YbulkdyyyFmtCards.lean). -/
def LawS6277BWholeFormAsk : Prop := lawS6277BWholeRow.holds Ybaf.pinned (OpenSpec.ofChange lawS6277BWholeSpec)

/-- ITS FALSE NEIGHBOUR: 'it returns false'. Refute it at one input. -/
def lawS6277BWholeWrong : ChangeSpec := { name := "lawS6277BWhole", fn := fun _ => fun
  | [d1, d2, d3, d4] => { results := [.lit (.bool false)], args := [d1, d2, d3, d4] }
  | _ => none }
def LawS6277BWholeWrongFormAsk : Prop := lawS6277BWholeRow.holds Ybaf.pinned (OpenSpec.ofChange lawS6277BWholeWrong)

/-- 'palimpsest.LawS6277CWhole': WHATEVER THE INPUT: true; the input reads as it did. -/
def lawS6277CWholeSpec : ChangeSpec := { name := "lawS6277CWhole", fn := fun _ => fun
  | [d1, d2] => { results := [.lit (.bool true)], args := [d1, d2] }
  | _ => none }
def lawS6277CWholeRow : OpenClaim := { program := "ybulkdyyyfmt", sum := "1fffe185c172a89821fc9fc565e19134673c3fdcf407ccb601db0e8055a658be", func := "example.com/palimpsest/palimpsest.LawS6277CWhole", spec := "lawS6277CWhole", stops := ["fmt.errorf", "fmt.Sprintf"], inPlace := ["fmt.Sprintf"], unfollowed := true, recurses := true, plainKeys := false, apart := false }
/-- NO THEOREM (fmt's text is open here; it may be false): for the released tool's asking of the row's closed facts alone. THE STATEMENT IS 'LawS6277CWholeToldSaid' (YbulkdyyyFmtCards.lean). -/
def LawS6277CWholeFormAsk : Prop := lawS6277CWholeRow.holds Ybaf.pinned (OpenSpec.ofChange lawS6277CWholeSpec)

/-- ITS FALSE NEIGHBOUR: 'it returns false'. Refute it at one input. -/
def lawS6277CWholeWrong : ChangeSpec := { name := "lawS6277CWhole", fn := fun _ => fun
  | [d1, d2] => { results := [.lit (.bool false)], args := [d1, d2] }
  | _ => none }
def LawS6277CWholeWrongFormAsk : Prop := lawS6277CWholeRow.holds Ybaf.pinned (OpenSpec.ofChange lawS6277CWholeWrong)

end Rows
end Go.Proofs.YbulkdyyyFmt
