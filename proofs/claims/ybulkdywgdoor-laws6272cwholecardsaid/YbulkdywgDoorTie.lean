/-
  DERIVED. GIVEN WITH THE SEED: THE PROGRAM's TIES (one call each: nine closed facts by the kernel) AND EACH ROW's TIE, after the 31st guide's Derived/Test/Toyas{Tie, Card}.lean. No idea stands in it: it is a product of the set-up. Laid BY PROGRAM, IN A SANDBOX (cutbox-door.mjs). By AI agents, Wed Nov 11 2026. No macro, syntax, notation, axiom, sorry.
-/
import Derived.Test.YbulkdywgDoorRows
import Derived.LaidByTextLater
import Derived.SevenTiedAt
import Derived.LaidSub
import Derived.LaidOnce
namespace Go.Proofs.YbulkdywgDoor
open Go
set_option maxRecDepth 100000
theorem seatTie1 : Ybad.prog.laidByTextLater [("example.com/redoubt/redoubt/internal/protocol.kinds", Rows.laid_example_com_redoubt_redoubt_internal_protocol_kinds)] [.data] true :=
  Program.laidByTextLater_by_one 26 8 40 (by kernel_rfl) (by kernel_rfl) (by kernel_rfl) (by kernel_rfl) (by kernel_rfl) (by kernel_rfl) (fun _ _ => by kernel_rfl)
theorem noOwnUnsafe : Ybad.pinned.checked.prog.headLifts.contains "ownunsafe" = false := by kernel_rfl
theorem tie : Ybad.prog.laidByTextLater [("example.com/redoubt/redoubt/internal/protocol.kinds", Rows.laid_example_com_redoubt_redoubt_internal_protocol_kinds)] [.data] true :=
  Program.laidByTextLater.sub seatTie1 ["example.com/redoubt/redoubt/internal/protocol.kinds"] (by kernel_rfl) (by kernel_rfl)
theorem lawS6272CWhole_row_tie : Rows.lawS6272CWholeRow.laidByTextAt .later Ybad.pinned [.data] true :=
  OpenClaim.laidByTextAt_later rfl rfl tie noOwnUnsafe
end Go.Proofs.YbulkdywgDoor
