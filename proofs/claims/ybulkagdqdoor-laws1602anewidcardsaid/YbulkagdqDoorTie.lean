/-
  DERIVED. GIVEN WITH THE SEED: THE PROGRAM's TIES (one call each: nine closed facts by the kernel) AND EACH ROW's TIE, after the 31st guide's Derived/Test/Toyas{Tie, Card}.lean. No idea stands in it: it is a product of the set-up. Laid BY PROGRAM, IN A SANDBOX (cutbox-door.mjs). By AI agents, Wed Nov 11 2026. No macro, syntax, notation, axiom, sorry.
-/
import Derived.Test.YbulkagdqDoorRows
import Derived.LaidByTextLater
import Derived.SevenTiedAt
import Derived.LaidSub
import Derived.LaidOnce
namespace Go.Proofs.YbulkagdqDoor
open Go
set_option maxRecDepth 100000
theorem seatTie1 : Ybad.prog.laidByTextLater [("errors.errorType", Rows.laid_errors_errorType), ("example.com/xortrie/xortrie.ErrArbiterID", Rows.laid_example_com_xortrie_xortrie_ErrArbiterID)] [.handle, .sentinel] true :=
  Program.laidByTextLater_by_one 35 8 2 (by kernel_rfl) (by kernel_rfl) (by kernel_rfl) (by kernel_rfl) (by kernel_rfl) (by kernel_rfl) (fun _ _ => by kernel_rfl)
theorem noOwnUnsafe : Ybad.pinned.checked.prog.headLifts.contains "ownunsafe" = false := by kernel_rfl
theorem tie : Ybad.prog.laidByTextLater [("errors.errorType", Rows.laid_errors_errorType), ("example.com/xortrie/xortrie.ErrArbiterID", Rows.laid_example_com_xortrie_xortrie_ErrArbiterID)] [.handle, .sentinel] true :=
  Program.laidByTextLater.sub seatTie1 ["errors.errorType", "example.com/xortrie/xortrie.ErrArbiterID"] (by kernel_rfl) (by kernel_rfl)
theorem lawS1602AResettle_row_tie : Rows.lawS1602AResettleRow.laidByTextAt .later Ybad.pinned [.handle, .sentinel] true :=
  OpenClaim.laidByTextAt_later rfl rfl tie noOwnUnsafe
theorem lawS1602ANewID_row_tie : Rows.lawS1602ANewIDRow.laidByTextAt .later Ybad.pinned [.handle, .sentinel] true :=
  OpenClaim.laidByTextAt_later rfl rfl tie noOwnUnsafe
end Go.Proofs.YbulkagdqDoor
