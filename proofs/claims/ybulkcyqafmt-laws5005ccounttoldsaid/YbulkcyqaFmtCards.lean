/-
  DERIVED. GIVEN WITH THE SEED: THE CARDS: each row of YbulkcyqaFmtRows.lean that lists a variable, with what it lists TIED to the program's text (the seventh form; the later family's looks); each row that meets fmt, with fmt's text TOLD by the authors' own Lean function (tested against real Go, not proved from fmt's source: count such statements apart). THE CARD IS WHAT COUNTS. Prove the row's statement (the work); the ties are given (YbulkcyqaFmtTie.lean); close each card by the builder's one call (the guide's Derived/Test/ToyasCard.lean, 'card_holds'). Laid BY PROGRAM, IN A SANDBOX (cutbox-door.mjs). By AI agents, Wed Nov 11 2026. No macro, syntax, notation, axiom, sorry.
-/
import Derived.Test.YbulkcyqaFmtRows
import GoSem.ClaimSeven
namespace Go.Proofs.YbulkcyqaFmt
namespace Rows

/-- THE TOLD AND TIED CARD OF 'event.LawS5005ARaw'. -/
def lawS5005ARawCard : Claim7 := { stood := { row := lawS5005ARawRow, standIns := [], harness := (true, "1248960ff0afe8b65167f81d242a8021bd2bb0bd3a0351207d66e88f4e830535"), looks := true }, told := true, laidByText := true, laidKinds := [.data, .data, .data, .sentinel, .sentinel], laidTests := true, laidLooks := .later, goes := false }
def LawS5005ARawToldSaid : Prop := Claim7.holds Ybaf.pinned (.plain (OpenSpec.ofChange lawS5005ARawSpec)) lawS5005ARawCard
/-- ITS FALSE NEIGHBOUR. Refute it at one input. -/
def LawS5005ARawToldWrongFalsely : Prop := Claim7.holds Ybaf.pinned (.plain (OpenSpec.ofChange lawS5005ARawWrong)) lawS5005ARawCard

/-- THE TOLD AND TIED CARD OF 'event.LawS5005ABuilt'. -/
def lawS5005ABuiltCard : Claim7 := { stood := { row := lawS5005ABuiltRow, standIns := [], harness := (true, "1248960ff0afe8b65167f81d242a8021bd2bb0bd3a0351207d66e88f4e830535"), looks := true }, told := true, laidByText := true, laidKinds := [.data, .data, .data, .sentinel, .sentinel], laidTests := true, laidLooks := .later, goes := false }
def LawS5005ABuiltToldSaid : Prop := Claim7.holds Ybaf.pinned (.plain (OpenSpec.ofChange lawS5005ABuiltSpec)) lawS5005ABuiltCard
/-- ITS FALSE NEIGHBOUR. Refute it at one input. -/
def LawS5005ABuiltToldWrongFalsely : Prop := Claim7.holds Ybaf.pinned (.plain (OpenSpec.ofChange lawS5005ABuiltWrong)) lawS5005ABuiltCard

/-- THE TOLD CARD OF 'unlock.LawS5005CCount'. -/
def lawS5005CCountCard : Claim7 := { stood := { row := lawS5005CCountRow, standIns := [], harness := (true, "1248960ff0afe8b65167f81d242a8021bd2bb0bd3a0351207d66e88f4e830535"), looks := true }, told := true, goes := false }
def LawS5005CCountToldSaid : Prop := Claim7.holds Ybaf.pinned (.plain (OpenSpec.ofChange lawS5005CCountSpec)) lawS5005CCountCard
/-- ITS FALSE NEIGHBOUR. Refute it at one input. -/
def LawS5005CCountToldWrongFalsely : Prop := Claim7.holds Ybaf.pinned (.plain (OpenSpec.ofChange lawS5005CCountWrong)) lawS5005CCountCard
end Rows
end Go.Proofs.YbulkcyqaFmt
