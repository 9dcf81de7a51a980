/-
  DERIVED. GIVEN WITH THE SEED: THE PROGRAM's TIES (one call each: nine closed facts by the kernel) AND EACH ROW's TIE, after the 31st guide's Derived/Test/Toyas{Tie, Card}.lean. No idea stands in it: it is a product of the set-up. Laid BY PROGRAM, IN A SANDBOX (cutbox-door.mjs). By AI agents, Wed Nov 11 2026. No macro, syntax, notation, axiom, sorry.
-/
import Derived.Test.YbulkaldyDoorRows
import Derived.LaidByTextLater
import Derived.SevenTiedAt
import Derived.LaidSub
import Derived.LaidOnce
namespace Go.Proofs.YbulkaldyDoor
open Go
set_option maxRecDepth 100000
theorem seatTie1 : Ybad.prog.laidByTextLater [("example.com/corelith/corelith/internal/controller.longID", Rows.laid_example_com_corelith_corelith_internal_controller_longID), ("example.com/corelith/corelith/internal/controller.idDigit", Rows.laid_example_com_corelith_corelith_internal_controller_idDigit)] [.data, .called] true :=
  Program.laidByTextLater_by_one 1695 8 257 (by kernel_rfl) (by kernel_rfl) (by kernel_rfl) (by kernel_rfl) (by kernel_rfl) (by kernel_rfl) (fun _ _ => by kernel_rfl)
theorem noOwnUnsafe : Ybad.pinned.checked.prog.headLifts.contains "ownunsafe" = false := by kernel_rfl
theorem tie : Ybad.prog.laidByTextLater [("example.com/corelith/corelith/internal/controller.longID", Rows.laid_example_com_corelith_corelith_internal_controller_longID), ("example.com/corelith/corelith/internal/controller.idDigit", Rows.laid_example_com_corelith_corelith_internal_controller_idDigit)] [.data, .called] true :=
  Program.laidByTextLater.sub seatTie1 ["example.com/corelith/corelith/internal/controller.longID", "example.com/corelith/corelith/internal/controller.idDigit"] (by kernel_rfl) (by kernel_rfl)
theorem lawS1844CRoundTrip_row_tie : Rows.lawS1844CRoundTripRow.laidByTextAt .later Ybad.pinned [.data, .called] true :=
  OpenClaim.laidByTextAt_later rfl rfl tie noOwnUnsafe
theorem tie2 : Ybad.prog.laidByTextLater [("example.com/corelith/corelith/internal/controller.longID", Rows.laid_example_com_corelith_corelith_internal_controller_longID)] [.data] true :=
  Program.laidByTextLater.sub seatTie1 ["example.com/corelith/corelith/internal/controller.longID"] (by kernel_rfl) (by kernel_rfl)
theorem lawS1844CShortDigits_row_tie : Rows.lawS1844CShortDigitsRow.laidByTextAt .later Ybad.pinned [.data] true :=
  OpenClaim.laidByTextAt_later rfl rfl tie2 noOwnUnsafe
theorem lawS1844CLong_row_tie : Rows.lawS1844CLongRow.laidByTextAt .later Ybad.pinned [.data] true :=
  OpenClaim.laidByTextAt_later rfl rfl tie2 noOwnUnsafe
end Go.Proofs.YbulkaldyDoor
