/-
  DERIVED. GIVEN WITH THE SEED: THE PROGRAM's TIES (one call each: nine closed facts by the kernel) AND EACH ROW's TIE, after the 31st guide's Derived/Test/Toyas{Tie, Card}.lean. No idea stands in it: it is a product of the set-up. Laid BY PROGRAM, IN A SANDBOX (cutbox-door.mjs). By AI agents, Wed Nov 11 2026. No macro, syntax, notation, axiom, sorry.
-/
import Derived.Test.YbulkcynwDoorRows
import Derived.LaidByTextLater
import Derived.SevenTiedAt
import Derived.LaidSub
import Derived.LaidOnce
namespace Go.Proofs.YbulkcynwDoor
open Go
set_option maxRecDepth 100000
theorem seatTie1 : Ybad.prog.laidByTextLater [("math/bits.deBruijn32tab", Rows.laid_math_bits_deBruijn32tab), ("math/bits.deBruijn64tab", Rows.laid_math_bits_deBruijn64tab), ("internal/strconv.uint64pow10", Rows.laid_internal_strconv_uint64pow10), ("io.EOF", Rows.laid_io_EOF), ("io.ErrUnexpectedEOF", Rows.laid_io_ErrUnexpectedEOF), ("example.com/antecede/antecede/internal/varint.ErrCutShort", Rows.laid_example_com_antecede_antecede_internal_varint_ErrCutShort), ("example.com/antecede/antecede/internal/varint.ErrTooLarge", Rows.laid_example_com_antecede_antecede_internal_varint_ErrTooLarge), ("example.com/antecede/antecede/internal/varint.ErrTooLong", Rows.laid_example_com_antecede_antecede_internal_varint_ErrTooLong), ("example.com/antecede/antecede/internal/vlog.kindNames", Rows.laid_example_com_antecede_antecede_internal_vlog_kindNames)] [.data, .data, .data, .sentinel, .sentinel, .sentinel, .sentinel, .sentinel, .data] true :=
  Program.laidByTextLater_by_one 124 8 65 (by kernel_rfl) (by kernel_rfl) (by kernel_rfl) (by kernel_rfl) (by kernel_rfl) (by kernel_rfl) (fun _ _ => by kernel_rfl)
theorem noOwnUnsafe : Ybad.pinned.checked.prog.headLifts.contains "ownunsafe" = false := by kernel_rfl
theorem tie : Ybad.prog.laidByTextLater [("io.EOF", Rows.laid_io_EOF), ("io.ErrUnexpectedEOF", Rows.laid_io_ErrUnexpectedEOF), ("example.com/antecede/antecede/internal/varint.ErrCutShort", Rows.laid_example_com_antecede_antecede_internal_varint_ErrCutShort), ("example.com/antecede/antecede/internal/varint.ErrTooLarge", Rows.laid_example_com_antecede_antecede_internal_varint_ErrTooLarge), ("example.com/antecede/antecede/internal/varint.ErrTooLong", Rows.laid_example_com_antecede_antecede_internal_varint_ErrTooLong)] [.sentinel, .sentinel, .sentinel, .sentinel, .sentinel] true :=
  Program.laidByTextLater.sub seatTie1 ["io.EOF", "io.ErrUnexpectedEOF", "example.com/antecede/antecede/internal/varint.ErrCutShort", "example.com/antecede/antecede/internal/varint.ErrTooLarge", "example.com/antecede/antecede/internal/varint.ErrTooLong"] (by kernel_rfl) (by kernel_rfl)
theorem lawS5001AModel_row_tie : Rows.lawS5001AModelRow.laidByTextAt .later Ybad.pinned [.sentinel, .sentinel, .sentinel, .sentinel, .sentinel] true :=
  OpenClaim.laidByTextAt_later rfl rfl tie noOwnUnsafe
theorem lawS5001ARoundTrip_row_tie : Rows.lawS5001ARoundTripRow.laidByTextAt .later Ybad.pinned [.sentinel, .sentinel, .sentinel, .sentinel, .sentinel] true :=
  OpenClaim.laidByTextAt_later rfl rfl tie noOwnUnsafe
theorem tie2 : Ybad.prog.laidByTextLater [("math/bits.deBruijn32tab", Rows.laid_math_bits_deBruijn32tab), ("math/bits.deBruijn64tab", Rows.laid_math_bits_deBruijn64tab), ("internal/strconv.uint64pow10", Rows.laid_internal_strconv_uint64pow10), ("example.com/antecede/antecede/internal/vlog.kindNames", Rows.laid_example_com_antecede_antecede_internal_vlog_kindNames)] [.data, .data, .data, .data] true :=
  Program.laidByTextLater.sub seatTie1 ["math/bits.deBruijn32tab", "math/bits.deBruijn64tab", "internal/strconv.uint64pow10", "example.com/antecede/antecede/internal/vlog.kindNames"] (by kernel_rfl) (by kernel_rfl)
theorem lawS5001CName_row_tie : Rows.lawS5001CNameRow.laidByTextAt .later Ybad.pinned [.data, .data, .data, .data] true :=
  OpenClaim.laidByTextAt_later rfl rfl tie2 noOwnUnsafe
end Go.Proofs.YbulkcynwDoor
