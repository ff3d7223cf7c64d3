/-
  NARROWER THAN 'FOR EVERY INPUT', by the rows' own cells (each row's printed sentence says how): LawS5001AModel: ifaces, laid · LawS5001ARoundTrip: ifaces, laid · LawS5001CName: laid.
  DERIVED. THE GIVEN ROWS OF THIS SEAT. 3 by the template 'for every input the law returns true; each argument reads behind the call as it read before'; 0 by the template 'total and deterministic' (their statements: YbulkcynwDoorTotals.lean).
  GIVEN WITH THE SEED: the statements are not yours to turn. If you find one false, say at which input.
  Laid BY PROGRAM, IN A SANDBOX (cutbox-rows.mjs): the forced cells as the released guide's own fill.sh prints them over the translation 453287b1f1b09902… (all of the seat's roots in one cut). By AI agents, Wed Nov 11 2026. No macro, syntax, notation, axiom, sorry.
-/
import Derived.Test.YbulkcynwDoorChecked
import GoSem.Claim
import GoSem.ClaimJoined
import GoSem.ClaimMapViews
import Derived.JoinedTies
import Derived.KernelRfl
namespace Go.Proofs.YbulkcynwDoor
/- THE CELL 'sum', in the pinned program and in every row, IS THE sha256 OF THE DUMP (.gsa) THAT YbulkcynwDoorProg.lean LOADS. Nothing in Lean hashes anything: it is a label: what it is worth is what the hold of that sum in a sandbox is worth. -/
noncomputable def Ybad.pinned : Pinned := { name := "ybulkcynwdoor", sum := "453287b1f1b09902727b0d2703b08bb6ca067b196bd980299ac1d6d9f3035579", checked := Ybad.checked }
namespace Rows
def none {H : Type} : Left H := { results := [], args := [] }

/- WHAT THE LISTED PACKAGE-LEVEL VARIABLES READ AS WHEN THE CALL BEGINS. Each datum BY PROGRAM (the guide's laid-datum.mjs) off the statement by which the dump's own 'gosem.cut.vars' lays the variable. In a bare row this is a premise. The card (YbulkcynwDoorCards.lean) ties it to the program's text. -/
def laid_io_EOF {H : Type} : DataW H := .iface "*errors.errorString" (.ptr (.agg [.lit (.string [69, 79, 70])]))
def laid_io_ErrUnexpectedEOF {H : Type} : DataW H := .iface "*errors.errorString" (.ptr (.agg [.lit (.string [117, 110, 101, 120, 112, 101, 99, 116, 101, 100, 32, 69, 79, 70])]))
def laid_example_com_antecede_antecede_internal_varint_ErrCutShort {H : Type} : DataW H := .iface "*errors.errorString" (.ptr (.agg [.lit (.string [99, 117, 116, 32, 115, 104, 111, 114, 116])]))
def laid_example_com_antecede_antecede_internal_varint_ErrTooLarge {H : Type} : DataW H := .iface "*errors.errorString" (.ptr (.agg [.lit (.string [100, 111, 101, 115, 32, 110, 111, 116, 32, 102, 105, 116, 32, 105, 110, 32, 54, 52, 32, 98, 105, 116, 115])]))
def laid_example_com_antecede_antecede_internal_varint_ErrTooLong {H : Type} : DataW H := .iface "*errors.errorString" (.ptr (.agg [.lit (.string [110, 111, 116, 32, 105, 110, 32, 105, 116, 115, 32, 115, 104, 111, 114, 116, 101, 115, 116, 32, 102, 111, 114, 109])]))
def laid_math_bits_deBruijn32tab {H : Type} : DataW H := .agg [.lit (.int .u8 0), .lit (.int .u8 1), .lit (.int .u8 28), .lit (.int .u8 2), .lit (.int .u8 29), .lit (.int .u8 14), .lit (.int .u8 24), .lit (.int .u8 3), .lit (.int .u8 30), .lit (.int .u8 22), .lit (.int .u8 20), .lit (.int .u8 15), .lit (.int .u8 25), .lit (.int .u8 17), .lit (.int .u8 4), .lit (.int .u8 8), .lit (.int .u8 31), .lit (.int .u8 27), .lit (.int .u8 13), .lit (.int .u8 23), .lit (.int .u8 21), .lit (.int .u8 19), .lit (.int .u8 16), .lit (.int .u8 7), .lit (.int .u8 26), .lit (.int .u8 12), .lit (.int .u8 18), .lit (.int .u8 6), .lit (.int .u8 11), .lit (.int .u8 5), .lit (.int .u8 10), .lit (.int .u8 9)]
def laid_math_bits_deBruijn64tab {H : Type} : DataW H := .agg [.lit (.int .u8 0), .lit (.int .u8 1), .lit (.int .u8 56), .lit (.int .u8 2), .lit (.int .u8 57), .lit (.int .u8 49), .lit (.int .u8 28), .lit (.int .u8 3), .lit (.int .u8 61), .lit (.int .u8 58), .lit (.int .u8 42), .lit (.int .u8 50), .lit (.int .u8 38), .lit (.int .u8 29), .lit (.int .u8 17), .lit (.int .u8 4), .lit (.int .u8 62), .lit (.int .u8 47), .lit (.int .u8 59), .lit (.int .u8 36), .lit (.int .u8 45), .lit (.int .u8 43), .lit (.int .u8 51), .lit (.int .u8 22), .lit (.int .u8 53), .lit (.int .u8 39), .lit (.int .u8 33), .lit (.int .u8 30), .lit (.int .u8 24), .lit (.int .u8 18), .lit (.int .u8 12), .lit (.int .u8 5), .lit (.int .u8 63), .lit (.int .u8 55), .lit (.int .u8 48), .lit (.int .u8 27), .lit (.int .u8 60), .lit (.int .u8 41), .lit (.int .u8 37), .lit (.int .u8 16), .lit (.int .u8 46), .lit (.int .u8 35), .lit (.int .u8 44), .lit (.int .u8 21), .lit (.int .u8 52), .lit (.int .u8 32), .lit (.int .u8 23), .lit (.int .u8 11), .lit (.int .u8 54), .lit (.int .u8 26), .lit (.int .u8 40), .lit (.int .u8 15), .lit (.int .u8 34), .lit (.int .u8 20), .lit (.int .u8 31), .lit (.int .u8 10), .lit (.int .u8 25), .lit (.int .u8 14), .lit (.int .u8 19), .lit (.int .u8 9), .lit (.int .u8 13), .lit (.int .u8 8), .lit (.int .u8 7), .lit (.int .u8 6)]
def laid_internal_strconv_uint64pow10 {H : Type} : DataW H := .agg [.lit (.int .u64 1), .lit (.int .u64 10), .lit (.int .u64 100), .lit (.int .u64 1000), .lit (.int .u64 10000), .lit (.int .u64 100000), .lit (.int .u64 1000000), .lit (.int .u64 10000000), .lit (.int .u64 100000000), .lit (.int .u64 1000000000), .lit (.int .u64 10000000000), .lit (.int .u64 100000000000), .lit (.int .u64 1000000000000), .lit (.int .u64 10000000000000), .lit (.int .u64 100000000000000), .lit (.int .u64 1000000000000000), .lit (.int .u64 10000000000000000), .lit (.int .u64 100000000000000000), .lit (.int .u64 1000000000000000000), .lit (.int .u64 10000000000000000000)]
def laid_example_com_antecede_antecede_internal_vlog_kindNames {H : Type} : DataW H := .agg [.lit (.string [111, 119, 110, 45, 101, 110, 116, 114, 121]), .lit (.string [103, 111, 101, 115, 45, 98, 97, 99, 107]), .lit (.string [117, 110, 107, 110, 111, 119, 110, 45, 101, 118, 101, 110, 116]), .lit (.string [109, 105, 115, 115, 105, 110, 103, 45, 112, 97, 115, 116]), .lit (.string [99, 97, 117, 115, 97, 108, 45, 99, 121, 99, 108, 101]), .lit (.string [116, 114, 117, 110, 99, 97, 116, 101, 100]), .lit (.string [109, 97, 108, 102, 111, 114, 109, 101, 100])]

/-- 'varint.LawS5001AModel': WHATEVER THE INPUT: true; the input reads as it did. -/
def lawS5001AModelSpec : ChangeSpec := { name := "lawS5001AModel", vars := ["example.com/antecede/antecede/internal/varint.ErrTooLarge", "example.com/antecede/antecede/internal/varint.ErrTooLong", "example.com/antecede/antecede/internal/varint.ErrCutShort"], fn := fun _ => fun
  | [d1, d2, g1, g2, g3] => { results := [.lit (.bool true)], args := [d1, d2], vars := [g1, g2, g3] }
  | _ => none }
def lawS5001AModelRow : OpenClaim := { program := "ybulkcynwdoor", sum := "453287b1f1b09902727b0d2703b08bb6ca067b196bd980299ac1d6d9f3035579", func := "example.com/antecede/antecede/internal/varint.LawS5001AModel", spec := "lawS5001AModel", unfollowed := true, recurses := true, named := ["io.EOF", "example.com/antecede/antecede/internal/varint.ErrTooLarge", "io.ErrUnexpectedEOF", "example.com/antecede/antecede/internal/varint.ErrTooLong", "example.com/antecede/antecede/internal/varint.ErrCutShort"], ifaces := true, apart := false, laid := [("io.EOF", laid_io_EOF), ("io.ErrUnexpectedEOF", laid_io_ErrUnexpectedEOF), ("example.com/antecede/antecede/internal/varint.ErrCutShort", laid_example_com_antecede_antecede_internal_varint_ErrCutShort), ("example.com/antecede/antecede/internal/varint.ErrTooLarge", laid_example_com_antecede_antecede_internal_varint_ErrTooLarge), ("example.com/antecede/antecede/internal/varint.ErrTooLong", laid_example_com_antecede_antecede_internal_varint_ErrTooLong)] }
def LawS5001AModelSaid : Prop := lawS5001AModelRow.holds Ybad.pinned (OpenSpec.ofChange lawS5001AModelSpec)

/-- ITS FALSE NEIGHBOUR: 'it returns false'. Refute it at one input. -/
def lawS5001AModelWrong : ChangeSpec := { name := "lawS5001AModel", vars := ["example.com/antecede/antecede/internal/varint.ErrTooLarge", "example.com/antecede/antecede/internal/varint.ErrTooLong", "example.com/antecede/antecede/internal/varint.ErrCutShort"], fn := fun _ => fun
  | [d1, d2, g1, g2, g3] => { results := [.lit (.bool false)], args := [d1, d2], vars := [g1, g2, g3] }
  | _ => none }
def LawS5001AModelWrongFalsely : Prop := lawS5001AModelRow.holds Ybad.pinned (OpenSpec.ofChange lawS5001AModelWrong)

/-- 'varint.LawS5001ARoundTrip': WHATEVER THE INPUT: true; the input reads as it did. -/
def lawS5001ARoundTripSpec : ChangeSpec := { name := "lawS5001ARoundTrip", vars := ["example.com/antecede/antecede/internal/varint.ErrTooLarge", "example.com/antecede/antecede/internal/varint.ErrCutShort", "example.com/antecede/antecede/internal/varint.ErrTooLong"], fn := fun _ => fun
  | [d1, d2, g1, g2, g3] => { results := [.lit (.bool true)], args := [d1, d2], vars := [g1, g2, g3] }
  | _ => none }
def lawS5001ARoundTripRow : OpenClaim := { program := "ybulkcynwdoor", sum := "453287b1f1b09902727b0d2703b08bb6ca067b196bd980299ac1d6d9f3035579", func := "example.com/antecede/antecede/internal/varint.LawS5001ARoundTrip", spec := "lawS5001ARoundTrip", unfollowed := true, recurses := true, named := ["io.EOF", "io.ErrUnexpectedEOF", "example.com/antecede/antecede/internal/varint.ErrTooLarge", "example.com/antecede/antecede/internal/varint.ErrCutShort", "example.com/antecede/antecede/internal/varint.ErrTooLong"], ifaces := true, apart := false, laid := [("io.EOF", laid_io_EOF), ("io.ErrUnexpectedEOF", laid_io_ErrUnexpectedEOF), ("example.com/antecede/antecede/internal/varint.ErrCutShort", laid_example_com_antecede_antecede_internal_varint_ErrCutShort), ("example.com/antecede/antecede/internal/varint.ErrTooLarge", laid_example_com_antecede_antecede_internal_varint_ErrTooLarge), ("example.com/antecede/antecede/internal/varint.ErrTooLong", laid_example_com_antecede_antecede_internal_varint_ErrTooLong)] }
def LawS5001ARoundTripSaid : Prop := lawS5001ARoundTripRow.holds Ybad.pinned (OpenSpec.ofChange lawS5001ARoundTripSpec)

/-- ITS FALSE NEIGHBOUR: 'it returns false'. Refute it at one input. -/
def lawS5001ARoundTripWrong : ChangeSpec := { name := "lawS5001ARoundTrip", vars := ["example.com/antecede/antecede/internal/varint.ErrTooLarge", "example.com/antecede/antecede/internal/varint.ErrCutShort", "example.com/antecede/antecede/internal/varint.ErrTooLong"], fn := fun _ => fun
  | [d1, d2, g1, g2, g3] => { results := [.lit (.bool false)], args := [d1, d2], vars := [g1, g2, g3] }
  | _ => none }
def LawS5001ARoundTripWrongFalsely : Prop := lawS5001ARoundTripRow.holds Ybad.pinned (OpenSpec.ofChange lawS5001ARoundTripWrong)

/-- 'vlog.LawS5001CName': WHATEVER THE INPUT: true; the input reads as it did. -/
def lawS5001CNameSpec : ChangeSpec := { name := "lawS5001CName", vars := ["example.com/antecede/antecede/internal/vlog.kindNames"], fn := fun _ => fun
  | [d, g1] => { results := [.lit (.bool true)], args := [d], vars := [g1] }
  | _ => none }
def lawS5001CNameRow : OpenClaim := { program := "ybulkcynwdoor", sum := "453287b1f1b09902727b0d2703b08bb6ca067b196bd980299ac1d6d9f3035579", func := "example.com/antecede/antecede/internal/vlog.LawS5001CName", spec := "lawS5001CName", named := ["example.com/antecede/antecede/internal/vlog.kindNames", "internal/strconv.uint64pow10", "math/bits.deBruijn32tab", "math/bits.deBruijn64tab"], apart := false, laid := [("math/bits.deBruijn32tab", laid_math_bits_deBruijn32tab), ("math/bits.deBruijn64tab", laid_math_bits_deBruijn64tab), ("internal/strconv.uint64pow10", laid_internal_strconv_uint64pow10), ("example.com/antecede/antecede/internal/vlog.kindNames", laid_example_com_antecede_antecede_internal_vlog_kindNames)] }
def LawS5001CNameSaid : Prop := lawS5001CNameRow.holds Ybad.pinned (OpenSpec.ofChange lawS5001CNameSpec)

/-- ITS FALSE NEIGHBOUR: 'it returns false'. Refute it at one input. -/
def lawS5001CNameWrong : ChangeSpec := { name := "lawS5001CName", vars := ["example.com/antecede/antecede/internal/vlog.kindNames"], fn := fun _ => fun
  | [d, g1] => { results := [.lit (.bool false)], args := [d], vars := [g1] }
  | _ => none }
def LawS5001CNameWrongFalsely : Prop := lawS5001CNameRow.holds Ybad.pinned (OpenSpec.ofChange lawS5001CNameWrong)

end Rows
end Go.Proofs.YbulkcynwDoor
