/-
  DERIVED. GIVEN WITH THE SEED: THE CARDS: each row of YbulkcynwDoorRows.lean that lists a variable, with what it lists TIED to the program's text (the seventh form; the later family's looks); each row that meets fmt, with fmt's text TOLD by the authors' own Lean function (tested against real Go, not proved from fmt's source: count such statements apart). THE CARD IS WHAT COUNTS. Prove the row's statement (the work); the ties are given (YbulkcynwDoorTie.lean); close each card by the builder's one call (the guide's Derived/Test/ToyasCard.lean, 'card_holds'). Laid BY PROGRAM, IN A SANDBOX (cutbox-door.mjs). By AI agents, Wed Nov 11 2026. No macro, syntax, notation, axiom, sorry.
-/
import Derived.Test.YbulkcynwDoorRows
import GoSem.ClaimSeven
namespace Go.Proofs.YbulkcynwDoor
namespace Rows

/-- THE TIED CARD OF 'varint.LawS5001AModel'. -/
def lawS5001AModelCard : Claim7 := { stood := { row := lawS5001AModelRow, standIns := [], harness := (true, "e5867c9b504dc642a89f2c154ebeebed69a474b2347b2edd410d6e5dcd6dcb16"), looks := true }, kinds := [], alts := [], laidByText := true, laidKinds := [.sentinel, .sentinel, .sentinel, .sentinel, .sentinel], laidTests := true, laidLooks := .later }
def LawS5001AModelCardSaid : Prop := Claim7.holds Ybad.pinned (.plain (OpenSpec.ofChange lawS5001AModelSpec)) lawS5001AModelCard

/-- THE TIED CARD OF 'varint.LawS5001ARoundTrip'. -/
def lawS5001ARoundTripCard : Claim7 := { stood := { row := lawS5001ARoundTripRow, standIns := [], harness := (true, "e5867c9b504dc642a89f2c154ebeebed69a474b2347b2edd410d6e5dcd6dcb16"), looks := true }, kinds := [], alts := [], laidByText := true, laidKinds := [.sentinel, .sentinel, .sentinel, .sentinel, .sentinel], laidTests := true, laidLooks := .later }
def LawS5001ARoundTripCardSaid : Prop := Claim7.holds Ybad.pinned (.plain (OpenSpec.ofChange lawS5001ARoundTripSpec)) lawS5001ARoundTripCard

/-- THE TIED CARD OF 'vlog.LawS5001CName'. -/
def lawS5001CNameCard : Claim7 := { stood := { row := lawS5001CNameRow, standIns := [], harness := (true, "e5867c9b504dc642a89f2c154ebeebed69a474b2347b2edd410d6e5dcd6dcb16"), looks := true }, kinds := [], alts := [], laidByText := true, laidKinds := [.data, .data, .data, .data], laidTests := true, laidLooks := .later }
def LawS5001CNameCardSaid : Prop := Claim7.holds Ybad.pinned (.plain (OpenSpec.ofChange lawS5001CNameSpec)) lawS5001CNameCard
end Rows
end Go.Proofs.YbulkcynwDoor
