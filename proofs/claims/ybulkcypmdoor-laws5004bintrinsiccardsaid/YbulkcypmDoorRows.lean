/-
  NARROWER THAN 'FOR EVERY INPUT', by the rows' own cells (each row's printed sentence says how): LawS5004BIntrinsic: laid · LawS5004BScale: laid.
  DERIVED. THE GIVEN ROWS OF THIS SEAT. 2 by the template 'for every input the law returns true; each argument reads behind the call as it read before'; 0 by the template 'total and deterministic' (their statements: YbulkcypmDoorTotals.lean).
  GIVEN WITH THE SEED: the statements are not yours to turn. If you find one false, say at which input.
  Laid BY PROGRAM, IN A SANDBOX (cutbox-rows.mjs): the forced cells as the released guide's own fill.sh prints them over the translation ec743f0f8152ffed… (all of the seat's roots in one cut). By AI agents, Wed Nov 11 2026. No macro, syntax, notation, axiom, sorry.
-/
import Derived.Test.YbulkcypmDoorChecked
import GoSem.Claim
import GoSem.ClaimJoined
import GoSem.ClaimMapViews
import Derived.JoinedTies
import Derived.KernelRfl
namespace Go.Proofs.YbulkcypmDoor
/- THE CELL 'sum', in the pinned program and in every row, IS THE sha256 OF THE DUMP (.gsa) THAT YbulkcypmDoorProg.lean LOADS. Nothing in Lean hashes anything: it is a label: what it is worth is what the hold of that sum in a sandbox is worth. -/
noncomputable def Ybad.pinned : Pinned := { name := "ybulkcypmdoor", sum := "ec743f0f8152ffedeba8922163eb71aba06e7a7322a5ca40078bb8c678d912f9", checked := Ybad.checked }
namespace Rows
def none {H : Type} : Left H := { results := [], args := [] }

/- WHAT THE LISTED PACKAGE-LEVEL VARIABLES READ AS WHEN THE CALL BEGINS. Each datum BY PROGRAM (the guide's laid-datum.mjs) off the statement by which the dump's own 'gosem.cut.vars' lays the variable. In a bare row this is a premise. The card (YbulkcypmDoorCards.lean) ties it to the program's text. -/
def laid_example_com_vestline_vestline_pkg_value_expSeries {H : Type} : DataW H := .agg [.lit (.float .f64 4602678819172646912), .lit (.float .f64 4595172819793696085), .lit (.float .f64 4586165620538955093), .lit (.float .f64 4575957461383581969), .lit (.float .f64 4564047942368979991), .lit (.float .f64 4551452160554016794), .lit (.float .f64 4537941361671905306), .lit (.float .f64 4523617214285662004), .lit (.float .f64 4508805057796939612), .lit (.float .f64 4493156764026750180), .lit (.float .f64 4477122120089393304), .lit (.float .f64 4460272573143870729)]
def laid_example_com_vestline_vestline_pkg_value_lnSeries {H : Type} : DataW H := .agg [.lit (.float .f64 4599676419421066581), .lit (.float .f64 4596373779694328218), .lit (.float .f64 4594314991293244562), .lit (.float .f64 4592670820000712476), .lit (.float .f64 4591215111030249286), .lit (.float .f64 4590207312512236308), .lit (.float .f64 4589468260265693457), .lit (.float .f64 4588638185040256542), .lit (.float .f64 4587745830934523688), .lit (.float .f64 4587023449039406616), .lit (.float .f64 4586426698778222948)]
def laid_example_com_vestline_vestline_pkg_value_erfSeries {H : Type} : DataW H := .agg [.lit (.float .f64 4607760587169110893), .lit (.float .f64 13823819347434633703), .lit (.float .f64 4592795249457507298), .lit (.float .f64 13806772904734002001), .lit (.float .f64 4572672858297640255), .lit (.float .f64 13784395700169345926), .lit (.float .f64 4548523690078996919), .lit (.float .f64 13758300211235570411), .lit (.float .f64 4520380840337101219), .lit (.float .f64 13728650905912600346), .lit (.float .f64 4490032028089207836), .lit (.float .f64 13696886215062967149), .lit (.float .f64 4456846938546218800), .lit (.float .f64 13663222339935684330), .lit (.float .f64 4422367961254817799), .lit (.float .f64 13627706588145419727), .lit (.float .f64 4385785527631038309), .lit (.float .f64 13590210042920191990), .lit (.float .f64 4347653220051876748)]

/-- 'value.LawS5004BIntrinsic': WHATEVER THE INPUT: true; the input reads as it did. -/
def lawS5004BIntrinsicSpec : ChangeSpec := { name := "lawS5004BIntrinsic", vars := ["example.com/vestline/vestline/pkg/value.expSeries", "example.com/vestline/vestline/pkg/value.lnSeries", "example.com/vestline/vestline/pkg/value.erfSeries"], fn := fun _ => fun
  | [d1, d2, d3, g1, g2, g3] => { results := [.lit (.bool true)], args := [d1, d2, d3], vars := [g1, g2, g3] }
  | _ => none }
def lawS5004BIntrinsicRow : OpenClaim := { program := "ybulkcypmdoor", sum := "ec743f0f8152ffedeba8922163eb71aba06e7a7322a5ca40078bb8c678d912f9", func := "example.com/vestline/vestline/pkg/value.LawS5004BIntrinsic", spec := "lawS5004BIntrinsic", inPlace := ["math.Float64bits", "math.Float64frombits", "math.archFloor", "math.archTrunc", "math.sqrt"], named := ["example.com/vestline/vestline/pkg/value.expSeries", "example.com/vestline/vestline/pkg/value.lnSeries", "example.com/vestline/vestline/pkg/value.erfSeries"], apart := false, laid := [("example.com/vestline/vestline/pkg/value.expSeries", laid_example_com_vestline_vestline_pkg_value_expSeries), ("example.com/vestline/vestline/pkg/value.lnSeries", laid_example_com_vestline_vestline_pkg_value_lnSeries), ("example.com/vestline/vestline/pkg/value.erfSeries", laid_example_com_vestline_vestline_pkg_value_erfSeries)] }
def LawS5004BIntrinsicSaid : Prop := lawS5004BIntrinsicRow.holds Ybad.pinned (OpenSpec.ofChange lawS5004BIntrinsicSpec)

/-- ITS FALSE NEIGHBOUR: 'it returns false'. Refute it at one input. -/
def lawS5004BIntrinsicWrong : ChangeSpec := { name := "lawS5004BIntrinsic", vars := ["example.com/vestline/vestline/pkg/value.expSeries", "example.com/vestline/vestline/pkg/value.lnSeries", "example.com/vestline/vestline/pkg/value.erfSeries"], fn := fun _ => fun
  | [d1, d2, d3, g1, g2, g3] => { results := [.lit (.bool false)], args := [d1, d2, d3], vars := [g1, g2, g3] }
  | _ => none }
def LawS5004BIntrinsicWrongFalsely : Prop := lawS5004BIntrinsicRow.holds Ybad.pinned (OpenSpec.ofChange lawS5004BIntrinsicWrong)

/-- 'value.LawS5004BScale': WHATEVER THE INPUT: true; the input reads as it did. -/
def lawS5004BScaleSpec : ChangeSpec := { name := "lawS5004BScale", vars := ["example.com/vestline/vestline/pkg/value.expSeries", "example.com/vestline/vestline/pkg/value.lnSeries", "example.com/vestline/vestline/pkg/value.erfSeries"], fn := fun _ => fun
  | [d1, d2, d3, d4, d5, d6, g1, g2, g3] => { results := [.lit (.bool true)], args := [d1, d2, d3, d4, d5, d6], vars := [g1, g2, g3] }
  | _ => none }
def lawS5004BScaleRow : OpenClaim := { program := "ybulkcypmdoor", sum := "ec743f0f8152ffedeba8922163eb71aba06e7a7322a5ca40078bb8c678d912f9", func := "example.com/vestline/vestline/pkg/value.LawS5004BScale", spec := "lawS5004BScale", inPlace := ["math.Float64frombits", "math.archFloor", "math.Float64bits", "math.archTrunc", "math.sqrt"], named := ["example.com/vestline/vestline/pkg/value.expSeries", "example.com/vestline/vestline/pkg/value.lnSeries", "example.com/vestline/vestline/pkg/value.erfSeries"], apart := false, laid := [("example.com/vestline/vestline/pkg/value.expSeries", laid_example_com_vestline_vestline_pkg_value_expSeries), ("example.com/vestline/vestline/pkg/value.lnSeries", laid_example_com_vestline_vestline_pkg_value_lnSeries), ("example.com/vestline/vestline/pkg/value.erfSeries", laid_example_com_vestline_vestline_pkg_value_erfSeries)] }
def LawS5004BScaleSaid : Prop := lawS5004BScaleRow.holds Ybad.pinned (OpenSpec.ofChange lawS5004BScaleSpec)

/-- ITS FALSE NEIGHBOUR: 'it returns false'. Refute it at one input. -/
def lawS5004BScaleWrong : ChangeSpec := { name := "lawS5004BScale", vars := ["example.com/vestline/vestline/pkg/value.expSeries", "example.com/vestline/vestline/pkg/value.lnSeries", "example.com/vestline/vestline/pkg/value.erfSeries"], fn := fun _ => fun
  | [d1, d2, d3, d4, d5, d6, g1, g2, g3] => { results := [.lit (.bool false)], args := [d1, d2, d3, d4, d5, d6], vars := [g1, g2, g3] }
  | _ => none }
def LawS5004BScaleWrongFalsely : Prop := lawS5004BScaleRow.holds Ybad.pinned (OpenSpec.ofChange lawS5004BScaleWrong)

end Rows
end Go.Proofs.YbulkcypmDoor
