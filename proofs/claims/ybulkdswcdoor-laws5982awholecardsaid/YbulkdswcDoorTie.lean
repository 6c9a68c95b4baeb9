/-
  DERIVED. GIVEN WITH THE SEED: THE PROGRAM's TIES (one call each: nine closed facts by the kernel) AND EACH ROW's TIE, after the 31st guide's Derived/Test/Toyas{Tie, Card}.lean. No idea stands in it: it is a product of the set-up. Laid BY PROGRAM, IN A SANDBOX (cutbox-door.mjs). By AI agents, Wed Nov 11 2026. No macro, syntax, notation, axiom, sorry.
-/
import Derived.Test.YbulkdswcDoorRows
import Derived.LaidByTextLater
import Derived.SevenTiedAt
import Derived.LaidSub
import Derived.LaidOnce
namespace Go.Proofs.YbulkdswcDoor
open Go
set_option maxRecDepth 100000
theorem seatTie1 : Ybad.prog.laidByTextLater [("example.com/bandwatch/bandwatch/alert.levels", Rows.laid_example_com_bandwatch_bandwatch_alert_levels), ("example.com/bandwatch/bandwatch/model.clusterLevels", Rows.laid_example_com_bandwatch_bandwatch_model_clusterLevels)] [.data, .data] true :=
  Program.laidByTextLater_by_one 22 8 7 (by kernel_rfl) (by kernel_rfl) (by kernel_rfl) (by kernel_rfl) (by kernel_rfl) (by kernel_rfl) (fun _ _ => by kernel_rfl)
theorem noOwnUnsafe : Ybad.pinned.checked.prog.headLifts.contains "ownunsafe" = false := by kernel_rfl
theorem tie : Ybad.prog.laidByTextLater [("example.com/bandwatch/bandwatch/model.clusterLevels", Rows.laid_example_com_bandwatch_bandwatch_model_clusterLevels)] [.data] true :=
  Program.laidByTextLater.sub seatTie1 ["example.com/bandwatch/bandwatch/model.clusterLevels"] (by kernel_rfl) (by kernel_rfl)
theorem lawS5982AWhole_row_tie : Rows.lawS5982AWholeRow.laidByTextAt .later Ybad.pinned [.data] true :=
  OpenClaim.laidByTextAt_later rfl rfl tie noOwnUnsafe
theorem tie2 : Ybad.prog.laidByTextLater [("example.com/bandwatch/bandwatch/alert.levels", Rows.laid_example_com_bandwatch_bandwatch_alert_levels)] [.data] true :=
  Program.laidByTextLater.sub seatTie1 ["example.com/bandwatch/bandwatch/alert.levels"] (by kernel_rfl) (by kernel_rfl)
theorem lawS5982BWhole_row_tie : Rows.lawS5982BWholeRow.laidByTextAt .later Ybad.pinned [.data] true :=
  OpenClaim.laidByTextAt_later rfl rfl tie2 noOwnUnsafe
end Go.Proofs.YbulkdswcDoor
