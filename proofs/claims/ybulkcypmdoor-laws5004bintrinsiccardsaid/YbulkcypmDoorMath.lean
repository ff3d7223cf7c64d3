/-
  math.IsNaN (5), math.IsInf at sign 0 (6), math.NaN (8), math.Abs (12): THE WALKS.
-/
import Derived.Test.YbulkcypmDoorPlain
import Derived.Test.YbulkcypmDoorProg
import Derived.WalkKit
import Derived.WalkSpells
import Derived.WalkLawsBesides
import Derived.Laws.BitsAllLaws
namespace Go.Proofs.YbulkcypmDoor
set_option linter.unusedVariables false
set_option linter.unusedSimpArgs false
open Go.RowKit

theorem fbits (b : Nat) (w : World) : (callFunc 9 #[.float .f64 b]).run Ybad.prog w = .ok (.value (.int .u64 b)) w := by kernel_rfl
theorem ffrom (n : Nat) (w : World) : (callFunc 17 #[.int .u64 n]).run Ybad.prog w = .ok (.value (.float .f64 n)) w := by kernel_rfl

theorem ffrom_nan (w : World) : (callFunc 17 #[.int .u64 9221120237041090561]).run Ybad.prog w = .ok (.value (.float .f64 9221120237041090561)) w := by kernel_rfl
theorem ffrom_one (w : World) : (callFunc 17 #[.int .u64 4607182418800017408]).run Ybad.prog w = .ok (.value (.float .f64 4607182418800017408)) w := by kernel_rfl
theorem floor_half (w : World) : (callFunc 24 #[.float .f64 4602678819172646912]).run Ybad.prog w = .ok (.value (.float .f64 0)) w := by kernel_rfl

set_option maxHeartbeats 400000 in
theorem isnan_yes (b : Nat) (w : World) (h : NaN b) : Calls Ybad.prog 5 #[.float .f64 b] w fun e w' => e = .returned (.bool true) ∧ w' = w := by
  have ho : (FloatKind.f64.format.order b b != some .eq) = true := by
    show (Ieee.double.order b b != some .eq) = true
    rw [order_nan_left h]; rfl
  go_enter Ybad.func5, Ybad.ntmps5
  go_wp2
  go_ret
  exact ⟨rfl, rfl⟩

set_option maxHeartbeats 400000 in
theorem isnan_no (b : Nat) (w : World) (h : ¬ NaN b) : Calls Ybad.prog 5 #[.float .f64 b] w fun e w' => e = .returned (.bool false) ∧ w' = w := by
  have ho : (FloatKind.f64.format.order b b != some .eq) = false := by
    show (Ieee.double.order b b != some .eq) = false
    rw [order_self h]; rfl
  clear h
  go_enter Ybad.func5, Ybad.ntmps5
  go_wp2
  go_ret
  exact ⟨rfl, rfl⟩

set_option maxHeartbeats 400000 in
theorem abs12 (b : Nat) (w : World) (hb : b < 18446744073709551616) : Calls Ybad.prog 12 #[.float .f64 b] w fun e w' => e = .returned (.float .f64 (rung b)) ∧ w' = w := by
  have h1 := fbits b w
  have h2 : bits .andNot .u64 (b : Int) 9223372036854775808 = ((rung b : Nat) : Int) := by
    have := u64_andNot_nat b 9223372036854775808 hb (by decide)
    rw [and_low] at this
    exact this
  have h3 := ffrom (rung b) w
  go_enter Ybad.func12, Ybad.ntmps12
  go_wp2
  go_ret
  exact ⟨rfl, rfl⟩

set_option maxHeartbeats 400000 in
theorem isinf_yes (b : Nat) (w : World) (hb : b < 18446744073709551616) (h : Inf b) : Calls Ybad.prog 6 #[.float .f64 b, .int .i64 0] w fun e w' => e = .returned (.bool true) ∧ w' = w := by
  have ho : (FloatKind.f64.format.order (rung b) 9218868437227405311 == some .gt) = true := by
    show (Ieee.double.order (rung b) 9218868437227405311 == some .gt) = true
    rw [gt_max_inf h]; rfl
  clear h
  go_enter Ybad.func6, Ybad.ntmps6
  go_wp2_with (go_at_call 12; refine (abs12 _ _ hb).mono ?_; rintro e w' ⟨rfl, rfl⟩)
  go_ret
  exact ⟨rfl, rfl⟩

set_option maxHeartbeats 400000 in
theorem isinf_no (b : Nat) (w : World) (hb : b < 18446744073709551616) (h : ¬ Inf b) : Calls Ybad.prog 6 #[.float .f64 b, .int .i64 0] w fun e w' => e = .returned (.bool false) ∧ w' = w := by
  have ho : (FloatKind.f64.format.order (rung b) 9218868437227405311 == some .gt) = false := gt_max_not h
  clear h
  go_enter Ybad.func6, Ybad.ntmps6
  go_wp2_with (go_at_call 12; refine (abs12 _ _ hb).mono ?_; rintro e w' ⟨rfl, rfl⟩)
  go_ret
  exact ⟨rfl, rfl⟩

set_option maxHeartbeats 400000 in
theorem nan8 (w : World) : Calls Ybad.prog 8 #[] w fun e w' => e = .returned (.float .f64 9221120237041090561) ∧ w' = w := by
  have h := ffrom_nan w
  go_enter Ybad.func8, Ybad.ntmps8
  go_wp2
  go_ret
  exact ⟨rfl, rfl⟩

/-! ### exp at a zero -/
def tab : List Nat := [4602678819172646912, 4595172819793696085, 4586165620538955093, 4575957461383581969, 4564047942368979991, 4551452160554016794, 4537941361671905306, 4523617214285662004, 4508805057796939612, 4493156764026750180, 4477122120089393304, 4460272573143870729]
theorem tab_mul (x : Nat) (hx : x = 0 ∨ x = 9223372036854775808) : ∀ k : Fin 12, floatBits .mul .f64 (tab.getD k 0) x = some x := by
  rcases hx with rfl | rfl <;> decide +kernel
theorem tab_add (x : Nat) (hx : x = 0 ∨ x = 9223372036854775808) : ∀ k : Fin 12, floatBits .add .f64 x (tab.getD k 0) = some (tab.getD k 0) := by
  rcases hx with rfl | rfl <;> decide +kernel

set_option maxHeartbeats 1000000 in
/-- Horner's rule at a zero, over the listed table: its first number. -/
theorem poly20 (x : Nat) (hx : x = 0 ∨ x = 9223372036854775808) (g : Nat) (w : World) (hcell : ∀ k, k < 12 → w.cell? ⟨g, k, none⟩ = some (.float .f64 (tab.getD k 0))) :
    Calls Ybad.prog 20 #[.float .f64 x, .slice (some ⟨g, 0, none⟩) 12 12] w fun e w' => e = .returned (.float .f64 4602678819172646912) ∧ w' = w := by
  have c11 : w.cell? ⟨g, 11, none⟩ = some (.float .f64 (tab.getD 11 0)) := hcell 11 (by omega)
  have HC : Hid _ := hcell
  have HM : Hid _ := fun (k : Nat) (hk : k < 12) (wx : World) => run_float_arith (P := Ybad.prog) wx .mul 22 .f64 _ _ _ (tab_mul x hx ⟨k, hk⟩)
  have HA : Hid _ := fun (k : Nat) (hk : k < 12) (wx : World) => run_float_arith (P := Ybad.prog) wx .add 22 .f64 _ _ _ (tab_add x hx ⟨k, hk⟩)
  clear hcell hx
  go_enter Ybad.func20, Ybad.ntmps20
  go_wp2
  go_loop [5, 6] (fun p i => ∃ k : Nat, k ≤ 11 ∧ i = .int .i64 ((k : Int) - 1) ∧ p = .float .f64 (tab.getD k 0)) (fun _ i => (intOf i + 1).toNat)
  case atStart => exact ⟨11, by omega, rfl, rfl⟩
  case round =>
    obtain ⟨k, hk, rfl, rfl⟩ := hrel
    by_cases hpos : 1 ≤ k
    · obtain ⟨j, rfl⟩ : ∃ j, k = j + 1 := ⟨k - 1, by omega⟩
      have hc := HC.out j (by omega)
      have hm := HM.out (j + 1) (by omega) w
      have ha := HA.out j (by omega) w
      have e : ((j + 1 : Nat) : Int) - 1 = (j : Int) := by omega
      rw [e]
      clear c11 e
      generalize tab.getD (j + 1) 0 = p1 at hm
      generalize hpe : tab.getD j 0 = p0 at hc ha
      have HPE : Hid _ := hpe
      clear hpe
      go_wp2
      go_round
      case rel => exact ⟨j, by omega, by go_num, by rw [HPE.out]⟩
      case measure => simp only [intOf]; omega
    · obtain rfl : k = 0 := by omega
      go_wp2
      go_ret
      exact ⟨rfl, rfl⟩

/-- The closed arithmetic on the way of exp at a zero x. -/
structure ExpFacts (x : Nat) : Prop where
  nan : (FloatKind.f64.format.order x x != some .eq) = false
  big : (FloatKind.f64.format.order x 4649456441864749056 == some .gt) = false
  small : (FloatKind.f64.format.order x 13873145138068324352 == some .lt) = false
  log : floatBits .mul .f64 x 4609176140021203710 = some x
  half : floatBits .add .f64 x 4602678819172646912 = some 4602678819172646912
  off : floatBits .sub .f64 x 0 = some x
  sq : floatBits .mul .f64 x x = some 0
  sum : floatBits .add .f64 x 0 = some 0
theorem expFacts (x : Nat) (hx : x = 0 ∨ x = 9223372036854775808) : ExpFacts x := by
  rcases hx with rfl | rfl
  · exact ⟨by decide +kernel, by decide +kernel, by decide +kernel, by decide +kernel, by decide +kernel, by decide +kernel, by decide +kernel, by decide +kernel⟩
  · exact ⟨by decide +kernel, by decide +kernel, by decide +kernel, by decide +kernel, by decide +kernel, by decide +kernel, by decide +kernel, by decide +kernel⟩

theorem slice_tab (w : World) : (Instr.sliceAt 40 (.pointer (some ⟨1, 0, none⟩)) none none none).run Ybad.prog w = .ok (.slice (some ⟨1, 0, none⟩) 12 12) w := by kernel_rfl

set_option maxHeartbeats 2000000 in
/-- e to a zero is 1. -/
theorem exp13 (x : Nat) (hx : x = 0 ∨ x = 9223372036854775808) (w : World) (hcell : ∀ k, k < 12 → w.cell? ⟨1, k, none⟩ = some (.float .f64 (tab.getD k 0))) :
    Calls Ybad.prog 13 #[.float .f64 x] w fun e w' => e = .returned (.float .f64 4607182418800017408) ∧ w' = w := by
  have F := expFacts x hx
  have f1 := F.nan
  have f2 := F.big
  have f3 := F.small
  have r1 := run_float_arith (P := Ybad.prog) w .mul 22 .f64 _ _ _ F.log
  have r2 := run_float_arith (P := Ybad.prog) w .add 22 .f64 _ _ _ F.half
  have r3 := floor_half w
  have r4 := run_float_arith (P := Ybad.prog) w .mul 22 .f64 0 4604418534311723008 0 (by decide +kernel)
  have r5 := run_float_arith (P := Ybad.prog) w .sub 22 .f64 _ _ _ F.off
  have r6 := run_float_arith (P := Ybad.prog) w .mul 22 .f64 0 4461442080421002358 0 (by decide +kernel)
  have r7 := run_float_arith (P := Ybad.prog) w .mul 22 .f64 _ _ _ F.sq
  have r8 := slice_tab w
  have r9 := run_float_arith (P := Ybad.prog) w .mul 22 .f64 0 4602678819172646912 0 (by decide +kernel)
  have r10 := run_float_arith (P := Ybad.prog) w .add 22 .f64 _ _ _ F.sum
  have r11 := run_float_arith (P := Ybad.prog) w .add 22 .f64 4607182418800017408 0 4607182418800017408 (by decide +kernel)
  have r12 := run_convert_float_int (P := Ybad.prog) w 22 3 .f64 .i64 0 0 (by kernel_rfl) Ybad.underlying3 (by decide +kernel)
  have r13 := ffrom_one w
  have r14 := run_float_arith (P := Ybad.prog) w .mul 22 .f64 4607182418800017408 4607182418800017408 4607182418800017408 (by decide +kernel)
  have HP : Hid _ := poly20 x hx 1 w hcell
  clear F hx hcell
  go_enter Ybad.func13, Ybad.ntmps13
  go_wp2_with (first | (go_at_call 20; refine Calls.mono HP.out ?_; rintro e w' ⟨rfl, rfl⟩) | go_in)
  go_ret
  exact ⟨rfl, rfl⟩

end Go.Proofs.YbulkcypmDoor
