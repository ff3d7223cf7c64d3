/-
  DERIVED. GIVEN WITH THE SEED: THE PROGRAM's TIES (one call each: nine closed facts by the kernel) AND EACH ROW's TIE, after the 31st guide's Derived/Test/Toyas{Tie, Card}.lean. No idea stands in it: it is a product of the set-up. Laid BY PROGRAM, IN A SANDBOX (cutbox-door.mjs). By AI agents, Wed Nov 11 2026. No macro, syntax, notation, axiom, sorry.
-/
import Derived.Test.YbulkcypmDoorRows
import Derived.LaidByTextLater
import Derived.SevenTiedAt
import Derived.LaidSub
import Derived.LaidOnce
namespace Go.Proofs.YbulkcypmDoor
open Go
set_option maxRecDepth 100000
theorem seatTie1 : Ybad.prog.laidByTextLater [("example.com/vestline/vestline/pkg/value.expSeries", Rows.laid_example_com_vestline_vestline_pkg_value_expSeries), ("example.com/vestline/vestline/pkg/value.lnSeries", Rows.laid_example_com_vestline_vestline_pkg_value_lnSeries), ("example.com/vestline/vestline/pkg/value.erfSeries", Rows.laid_example_com_vestline_vestline_pkg_value_erfSeries)] [.widerDeep, .widerDeep, .widerDeep] true :=
  Program.laidByTextLater_by_one 24 8 20 (by kernel_rfl) (by kernel_rfl) (by kernel_rfl) (by kernel_rfl) (by kernel_rfl) (by kernel_rfl) (fun _ _ => by kernel_rfl)
theorem noOwnUnsafe : Ybad.pinned.checked.prog.headLifts.contains "ownunsafe" = false := by kernel_rfl
theorem tie : Ybad.prog.laidByTextLater [("example.com/vestline/vestline/pkg/value.expSeries", Rows.laid_example_com_vestline_vestline_pkg_value_expSeries), ("example.com/vestline/vestline/pkg/value.lnSeries", Rows.laid_example_com_vestline_vestline_pkg_value_lnSeries), ("example.com/vestline/vestline/pkg/value.erfSeries", Rows.laid_example_com_vestline_vestline_pkg_value_erfSeries)] [.widerDeep, .widerDeep, .widerDeep] true :=
  Program.laidByTextLater.sub seatTie1 ["example.com/vestline/vestline/pkg/value.expSeries", "example.com/vestline/vestline/pkg/value.lnSeries", "example.com/vestline/vestline/pkg/value.erfSeries"] (by kernel_rfl) (by kernel_rfl)
theorem lawS5004BIntrinsic_row_tie : Rows.lawS5004BIntrinsicRow.laidByTextAt .later Ybad.pinned [.widerDeep, .widerDeep, .widerDeep] true :=
  OpenClaim.laidByTextAt_later rfl rfl tie noOwnUnsafe
theorem lawS5004BScale_row_tie : Rows.lawS5004BScaleRow.laidByTextAt .later Ybad.pinned [.widerDeep, .widerDeep, .widerDeep] true :=
  OpenClaim.laidByTextAt_later rfl rfl tie noOwnUnsafe
end Go.Proofs.YbulkcypmDoor
