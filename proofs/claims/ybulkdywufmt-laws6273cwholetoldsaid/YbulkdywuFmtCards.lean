/-
  DERIVED. GIVEN WITH THE SEED: THE CARDS: each row of YbulkdywuFmtRows.lean that lists a variable, with what it lists TIED to the program's text (the seventh form; the later family's looks); each row that meets fmt, with fmt's text TOLD by the authors' own Lean function (tested against real Go, not proved from fmt's source: count such statements apart). THE CARD IS WHAT COUNTS. Prove the row's statement (the work); the ties are given (YbulkdywuFmtTie.lean); close each card by the builder's one call (the guide's Derived/Test/ToyasCard.lean, 'card_holds'). Laid BY PROGRAM, IN A SANDBOX (cutbox-door.mjs). By AI agents, Wed Nov 11 2026. No macro, syntax, notation, axiom, sorry.
-/
import Derived.Test.YbulkdywuFmtRows
import GoSem.ClaimSeven
namespace Go.Proofs.YbulkdywuFmt
namespace Rows

/-- THE TOLD CARD OF 'aggregator.LawS6273CWhole'. -/
def lawS6273CWholeCard : Claim7 := { stood := { row := lawS6273CWholeRow, standIns := [], harness := (true, "c18eca0579c46a0ab47f31c06bcc8eac93c2cd11f2324931730ed3144ee1b644"), looks := false }, told := true, goes := false }
def LawS6273CWholeToldSaid : Prop := Claim7.holds Ybaf.pinned (.plain (OpenSpec.ofChange lawS6273CWholeSpec)) lawS6273CWholeCard
/-- ITS FALSE NEIGHBOUR. Refute it at one input. -/
def LawS6273CWholeToldWrongFalsely : Prop := Claim7.holds Ybaf.pinned (.plain (OpenSpec.ofChange lawS6273CWholeWrong)) lawS6273CWholeCard
end Rows
end Go.Proofs.YbulkdywuFmt
