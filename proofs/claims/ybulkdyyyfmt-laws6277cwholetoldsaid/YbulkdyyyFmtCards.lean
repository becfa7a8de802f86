/-
  DERIVED. GIVEN WITH THE SEED: THE CARDS: each row of YbulkdyyyFmtRows.lean that lists a variable, with what it lists TIED to the program's text (the seventh form; the later family's looks); each row that meets fmt, with fmt's text TOLD by the authors' own Lean function (tested against real Go, not proved from fmt's source: count such statements apart). THE CARD IS WHAT COUNTS. Prove the row's statement (the work); the ties are given (YbulkdyyyFmtTie.lean); close each card by the builder's one call (the guide's Derived/Test/ToyasCard.lean, 'card_holds'). Laid BY PROGRAM, IN A SANDBOX (cutbox-door.mjs). By AI agents, Wed Nov 11 2026. No macro, syntax, notation, axiom, sorry.
-/
import Derived.Test.YbulkdyyyFmtRows
import GoSem.ClaimSeven
namespace Go.Proofs.YbulkdyyyFmt
namespace Rows

/-- THE TOLD AND TIED CARD OF 'cli.LawS6277BWhole'. -/
def lawS6277BWholeCard : Claim7 := { stood := { row := lawS6277BWholeRow, standIns := [], harness := (true, "c73db74a57c8565acd26e1d1775bb4651ec358127a16a37e4e2b2299d549d62e"), looks := true }, told := true, laidByText := true, laidKinds := [.data, .pinned], laidTests := true, laidLooks := .later, goes := false }
def LawS6277BWholeToldSaid : Prop := Claim7.holds Ybaf.pinned (.plain (OpenSpec.ofChange lawS6277BWholeSpec)) lawS6277BWholeCard
/-- ITS FALSE NEIGHBOUR. Refute it at one input. -/
def LawS6277BWholeToldWrongFalsely : Prop := Claim7.holds Ybaf.pinned (.plain (OpenSpec.ofChange lawS6277BWholeWrong)) lawS6277BWholeCard

/-- THE TOLD CARD OF 'palimpsest.LawS6277CWhole'. -/
def lawS6277CWholeCard : Claim7 := { stood := { row := lawS6277CWholeRow, standIns := [], harness := (true, "c73db74a57c8565acd26e1d1775bb4651ec358127a16a37e4e2b2299d549d62e"), looks := true }, told := true, goes := false }
def LawS6277CWholeToldSaid : Prop := Claim7.holds Ybaf.pinned (.plain (OpenSpec.ofChange lawS6277CWholeSpec)) lawS6277CWholeCard
/-- ITS FALSE NEIGHBOUR. Refute it at one input. -/
def LawS6277CWholeToldWrongFalsely : Prop := Claim7.holds Ybaf.pinned (.plain (OpenSpec.ofChange lawS6277CWholeWrong)) lawS6277CWholeCard
end Rows
end Go.Proofs.YbulkdyyyFmt
