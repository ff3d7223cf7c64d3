/-
  No cell of these rows narrows 'for every input' (looked for: loops, veiled, ifaces, maps, wideKeys, modest, calm, conditions, laid).
  DERIVED. THE GIVEN ROWS OF THIS SEAT. 3 by the template 'for every input the law returns true; each argument reads behind the call as it read before'; 0 by the template 'total and deterministic' (their statements: YbulkcyoyTotals.lean).
  GIVEN WITH THE SEED: the statements are not yours to turn. If you find one false, say at which input.
  Laid BY PROGRAM, IN A SANDBOX (cutbox-rows.mjs): the forced cells as the released guide's own fill.sh prints them over the translation a4b3442305d46f49… (all of the seat's roots in one cut). By AI agents, Wed Nov 11 2026. No macro, syntax, notation, axiom, sorry.
-/
import Derived.Test.YbulkcyoyChecked
import GoSem.Claim
import GoSem.ClaimJoined
import GoSem.ClaimMapViews
import Derived.JoinedTies
import Derived.KernelRfl
namespace Go.Proofs.Ybulkcyoy
/- THE CELL 'sum', in the pinned program and in every row, IS THE sha256 OF THE DUMP (.gsa) THAT YbulkcyoyProg.lean LOADS. Nothing in Lean hashes anything: it is a label: what it is worth is what the hold of that sum in a sandbox is worth. -/
noncomputable def Yba.pinned : Pinned := { name := "ybulkcyoy", sum := "a4b3442305d46f4990806dca3d4ad3c69a5f64de79c5ae9f165d96ab087c8b08", checked := Yba.checked }
namespace Rows
def none {H : Type} : Left H := { results := [], args := [] }

/-- 'bondward.LawS5003AExact': WHATEVER THE INPUT: true; the input reads as it did. -/
def lawS5003AExactSpec : ChangeSpec := { name := "lawS5003AExact", fn := fun _ => fun
  | [d1, d2] => { results := [.lit (.bool true)], args := [d1, d2] }
  | _ => none }
def lawS5003AExactRow : OpenClaim := { program := "ybulkcyoy", sum := "a4b3442305d46f4990806dca3d4ad3c69a5f64de79c5ae9f165d96ab087c8b08", func := "bondward.example/bondward.LawS5003AExact", spec := "lawS5003AExact", apart := false }
def LawS5003AExactSaid : Prop := lawS5003AExactRow.holds Yba.pinned (OpenSpec.ofChange lawS5003AExactSpec)

/-- ITS FALSE NEIGHBOUR: 'it returns false'. Refute it at one input. -/
def lawS5003AExactWrong : ChangeSpec := { name := "lawS5003AExact", fn := fun _ => fun
  | [d1, d2] => { results := [.lit (.bool false)], args := [d1, d2] }
  | _ => none }
def LawS5003AExactWrongFalsely : Prop := lawS5003AExactRow.holds Yba.pinned (OpenSpec.ofChange lawS5003AExactWrong)

/-- 'bondward.LawS5003CExact': WHATEVER THE INPUT: true; the input reads as it did. -/
def lawS5003CExactSpec : ChangeSpec := { name := "lawS5003CExact", fn := fun _ => fun
  | [d1, d2, d3, d4] => { results := [.lit (.bool true)], args := [d1, d2, d3, d4] }
  | _ => none }
def lawS5003CExactRow : OpenClaim := { program := "ybulkcyoy", sum := "a4b3442305d46f4990806dca3d4ad3c69a5f64de79c5ae9f165d96ab087c8b08", func := "bondward.example/bondward.LawS5003CExact", spec := "lawS5003CExact", apart := false }
def LawS5003CExactSaid : Prop := lawS5003CExactRow.holds Yba.pinned (OpenSpec.ofChange lawS5003CExactSpec)

/-- ITS FALSE NEIGHBOUR: 'it returns false'. Refute it at one input. -/
def lawS5003CExactWrong : ChangeSpec := { name := "lawS5003CExact", fn := fun _ => fun
  | [d1, d2, d3, d4] => { results := [.lit (.bool false)], args := [d1, d2, d3, d4] }
  | _ => none }
def LawS5003CExactWrongFalsely : Prop := lawS5003CExactRow.holds Yba.pinned (OpenSpec.ofChange lawS5003CExactWrong)

/-- 'bondward.LawS5003CSymmetry': WHATEVER THE INPUT: true; the input reads as it did. -/
def lawS5003CSymmetrySpec : ChangeSpec := { name := "lawS5003CSymmetry", fn := fun _ => fun
  | [d1, d2, d3, d4] => { results := [.lit (.bool true)], args := [d1, d2, d3, d4] }
  | _ => none }
def lawS5003CSymmetryRow : OpenClaim := { program := "ybulkcyoy", sum := "a4b3442305d46f4990806dca3d4ad3c69a5f64de79c5ae9f165d96ab087c8b08", func := "bondward.example/bondward.LawS5003CSymmetry", spec := "lawS5003CSymmetry", apart := false }
def LawS5003CSymmetrySaid : Prop := lawS5003CSymmetryRow.holds Yba.pinned (OpenSpec.ofChange lawS5003CSymmetrySpec)

/-- ITS FALSE NEIGHBOUR: 'it returns false'. Refute it at one input. -/
def lawS5003CSymmetryWrong : ChangeSpec := { name := "lawS5003CSymmetry", fn := fun _ => fun
  | [d1, d2, d3, d4] => { results := [.lit (.bool false)], args := [d1, d2, d3, d4] }
  | _ => none }
def LawS5003CSymmetryWrongFalsely : Prop := lawS5003CSymmetryRow.holds Yba.pinned (OpenSpec.ofChange lawS5003CSymmetryWrong)

end Rows
end Go.Proofs.Ybulkcyoy
