/-
  DERIVED. GIVEN WITH THE SEED: THE CARDS: each row of YbulkcypmDoorRows.lean that lists a variable, with what it lists TIED to the program's text (the seventh form; the later family's looks); each row that meets fmt, with fmt's text TOLD by the authors' own Lean function (tested against real Go, not proved from fmt's source: count such statements apart). THE CARD IS WHAT COUNTS. Prove the row's statement (the work); the ties are given (YbulkcypmDoorTie.lean); close each card by the builder's one call (the guide's Derived/Test/ToyasCard.lean, 'card_holds'). Laid BY PROGRAM, IN A SANDBOX (cutbox-door.mjs). By AI agents, Wed Nov 11 2026. No macro, syntax, notation, axiom, sorry.
-/
import Derived.Test.YbulkcypmDoorRows
import GoSem.ClaimSeven
namespace Go.Proofs.YbulkcypmDoor
namespace Rows

/-- THE TIED CARD OF 'value.LawS5004BIntrinsic'. -/
def lawS5004BIntrinsicCard : Claim7 := { stood := { row := lawS5004BIntrinsicRow, standIns := [], harness := (true, "b430c7e82df4c65a8b9d0b0c566ae487496ac1fdc4f2d7f54f61ced9a9e8f7af"), looks := false }, kinds := [], alts := [], laidByText := true, laidKinds := [.widerDeep, .widerDeep, .widerDeep], laidTests := true, laidLooks := .later }
def LawS5004BIntrinsicCardSaid : Prop := Claim7.holds Ybad.pinned (.plain (OpenSpec.ofChange lawS5004BIntrinsicSpec)) lawS5004BIntrinsicCard

/-- THE TIED CARD OF 'value.LawS5004BScale'. -/
def lawS5004BScaleCard : Claim7 := { stood := { row := lawS5004BScaleRow, standIns := [], harness := (true, "b430c7e82df4c65a8b9d0b0c566ae487496ac1fdc4f2d7f54f61ced9a9e8f7af"), looks := false }, kinds := [], alts := [], laidByText := true, laidKinds := [.widerDeep, .widerDeep, .widerDeep], laidTests := true, laidLooks := .later }
def LawS5004BScaleCardSaid : Prop := Claim7.holds Ybad.pinned (.plain (OpenSpec.ofChange lawS5004BScaleSpec)) lawS5004BScaleCard
end Rows
end Go.Proofs.YbulkcypmDoor
