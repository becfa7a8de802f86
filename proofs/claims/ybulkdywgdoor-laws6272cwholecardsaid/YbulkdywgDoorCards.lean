/-
  DERIVED. GIVEN WITH THE SEED: THE CARDS: each row of YbulkdywgDoorRows.lean that lists a variable, with what it lists TIED to the program's text (the seventh form; the later family's looks); each row that meets fmt, with fmt's text TOLD by the authors' own Lean function (tested against real Go, not proved from fmt's source: count such statements apart). THE CARD IS WHAT COUNTS. Prove the row's statement (the work); the ties are given (YbulkdywgDoorTie.lean); close each card by the builder's one call (the guide's Derived/Test/ToyasCard.lean, 'card_holds'). Laid BY PROGRAM, IN A SANDBOX (cutbox-door.mjs). By AI agents, Wed Nov 11 2026. No macro, syntax, notation, axiom, sorry.
-/
import Derived.Test.YbulkdywgDoorRows
import GoSem.ClaimSeven
namespace Go.Proofs.YbulkdywgDoor
namespace Rows

/-- THE TIED CARD OF 'protocol.LawS6272CWhole'. -/
def lawS6272CWholeCard : Claim7 := { stood := { row := lawS6272CWholeRow, standIns := [], harness := (true, "6dbfa2652a2a3358925c1a4ee6d02e41439194c5dd8b06bddcfa48ef15fbab27"), looks := false }, kinds := [], alts := [], laidByText := true, laidKinds := [.data], laidTests := true, laidLooks := .later }
def LawS6272CWholeCardSaid : Prop := Claim7.holds Ybad.pinned (.plain (OpenSpec.ofChange lawS6272CWholeSpec)) lawS6272CWholeCard
end Rows
end Go.Proofs.YbulkdywgDoor
