/-
  value.LawS5004BIntrinsic (3): THE WALKS.
-/
import Derived.Test.YbulkcypmDoorCall
namespace Go.Proofs.YbulkcypmDoor
set_option linter.unusedVariables false
set_option linter.unusedSimpArgs false
open Go.RowKit

set_option maxHeartbeats 1000000 in
theorem law_ynan (S K Y : Nat) (w : World) (h : NaN Y) :
    Calls Ybad.prog 3 #[.float .f64 S, .float .f64 K, .float .f64 Y] w fun e w' => e = .returned (.bool true) ∧ Below w.heap.size w w' := by
  go_enter Ybad.func3, Ybad.ntmps3
  go_wp2_with (go_at_call 5; refine (isnan_yes _ _ h).mono ?_; rintro e w' ⟨rfl, rfl⟩)
  go_ret
  exact ⟨rfl, Below.refl _ _⟩

set_option maxHeartbeats 1000000 in
theorem law_yinf (S K Y : Nat) (w : World) (hY : Y < 18446744073709551616) (h : Inf Y) :
    Calls Ybad.prog 3 #[.float .f64 S, .float .f64 K, .float .f64 Y] w fun e w' => e = .returned (.bool true) ∧ Below w.heap.size w w' := by
  have hn : Hid (¬ NaN Y) := fun h' => by unfold NaN at h'; unfold Inf at h; omega
  have HI : Hid _ := h
  clear h
  go_enter Ybad.func3, Ybad.ntmps3
  go_wp2_with (first | (go_at_call 5; refine (isnan_no _ _ hn.out).mono ?_; rintro e w' ⟨rfl, rfl⟩) | (go_at_call 6; refine (isinf_yes _ _ hY HI.out).mono ?_; rintro e w' ⟨rfl, rfl⟩))
  go_ret
  exact ⟨rfl, Below.refl _ _⟩

theorem nan_const : NaN 9221120237041090561 := by unfold NaN; decide

set_option maxHeartbeats 1000000 in
/-- An infinite strike. -/
theorem law_kinf (S K Y : Nat) (w : World) (hS : S < 18446744073709551616) (hK : K < 18446744073709551616) (hY64 : Y < 18446744073709551616) (hY : Finite Y) (h : Inf K)
    (hcell : ∀ k, k < 12 → w.cell? ⟨1, k, none⟩ = some (.float .f64 (tab.getD k 0))) :
    Calls Ybad.prog 3 #[.float .f64 S, .float .f64 K, .float .f64 Y] w fun e w' => e = .returned (.bool true) ∧ Below w.heap.size w w' := by
  have hn : Hid (¬ NaN Y) := fun h' => by unfold NaN at h'; unfold Finite at hY; omega
  have hni : Hid (¬ Inf Y) := fun h' => by unfold Inf at h'; unfold Finite at hY; omega
  have HI : Hid _ := h
  have HC : Hid _ := call_inf S K Y w hS hK hY h hcell
  clear h hY hcell
  go_enter Ybad.func3, Ybad.ntmps3
  go_wp2_with fail
  refine (isnan_no _ _ hn.out).mono ?_; rintro e w' ⟨rfl, rfl⟩
  go_wp2_with fail
  refine (isinf_no _ _ hY64 hni.out).mono ?_; rintro e w' ⟨rfl, rfl⟩
  go_wp2_with fail
  refine Calls.mono HC.out ?_
  rintro e w1 ⟨G, m, rfl, rfl, hG, hG64⟩
  have HG : Hid _ := hG
  clear hG
  go_wp2_with fail
  refine (isinf_yes _ _ hK HI.out).mono ?_; rintro e w' ⟨rfl, rfl⟩
  go_wp2_with fail
  refine (nan8 _).mono ?_; rintro e w' ⟨rfl, rfl⟩
  go_wp2_with fail
  refine (isnan_yes _ _ nan_const).mono ?_; rintro e w' ⟨rfl, rfl⟩
  go_wp2_with fail
  refine (isnan_yes _ _ nan_const).mono ?_; rintro e w' ⟨rfl, rfl⟩
  go_wp2_with fail
  refine (isnan_yes _ _ HG.out).mono ?_; rintro e w' ⟨rfl, rfl⟩
  go_wp2
  go_ret
  exact ⟨rfl, below_drewN (Below.refl _ _) _⟩

set_option maxHeartbeats 1000000 in
/-- A NaN among spot and strike, the strike not infinite. -/
theorem law_nan (S K Y : Nat) (w : World) (hS : S < 18446744073709551616) (hK : K < 18446744073709551616) (hY64 : Y < 18446744073709551616) (hY : Finite Y) (hk : ¬ Inf K) (hsub : Ieee.double.sub S K = none)
    (HC : Hid (Calls Ybad.prog 7 #[.float .f64 S, .float .f64 K, .float .f64 Y, .float .f64 0, .float .f64 0, .float .f64 0] w fun e w' => ∃ G m, e = .returned (.float .f64 G) ∧ w' = w.drewN m ∧ NaN G ∧ G < 18446744073709551616)) :
    Calls Ybad.prog 3 #[.float .f64 S, .float .f64 K, .float .f64 Y] w fun e w' => e = .returned (.bool true) ∧ Below w.heap.size w w' := by
  have hn : Hid (¬ NaN Y) := fun h' => by unfold NaN at h'; unfold Finite at hY; omega
  have hni : Hid (¬ Inf Y) := fun h' => by unfold Inf at h'; unfold Finite at hY; omega
  have HI : Hid _ := hk
  have n1 := fun wx => run_sub_nan wx S K hsub
  clear hk hY hsub
  go_enter Ybad.func3, Ybad.ntmps3
  go_wp2_with fail
  refine (isnan_no _ _ hn.out).mono ?_; rintro e w' ⟨rfl, rfl⟩
  go_wp2_with fail
  refine (isinf_no _ _ hY64 hni.out).mono ?_; rintro e w' ⟨rfl, rfl⟩
  go_wp2_with fail
  refine Calls.mono HC.out ?_
  rintro e w1 ⟨G, m, rfl, hw1, hG, hG64⟩
  have hd : (FloatKind.f64.format.order (nanAt w1 (.nanBits .f64 S K)) (nanAt w1 (.nanBits .f64 S K)) != some .eq) = true := by
    show (Ieee.double.order _ _ != some .eq) = true
    rw [order_nan_left (nanAt_bits w1 S K).1]; rfl
  have HG : Hid _ := hG
  have HW : Hid _ := hw1
  clear hG hw1
  go_wp2_with fail
  refine (isinf_no _ _ hK HI.out).mono ?_; rintro e w' ⟨rfl, rfl⟩
  go_wp2_with fail
  refine (nan8 _).mono ?_; rintro e w' ⟨rfl, rfl⟩
  go_wp2_with fail
  refine (isnan_yes _ _ nan_const).mono ?_; rintro e w' ⟨rfl, rfl⟩
  go_wp2_with fail
  refine (isnan_yes _ _ nan_const).mono ?_; rintro e w' ⟨rfl, rfl⟩
  go_wp2_with fail
  refine (isnan_yes _ _ HG.out).mono ?_; rintro e w' ⟨rfl, rfl⟩
  go_wp2
  go_ret
  refine ⟨rfl, Below.drew ?_⟩
  rw [HW.out]
  exact below_drewN (Below.refl _ _) _

theorem pos_not_nan {d : Nat} (h : ¬ NaN d) : ¬ NaN (pos d) := by
  unfold pos
  split
  · exact h
  · unfold NaN; decide

set_option maxHeartbeats 1000000 in
/-- No NaN, a finite strike. -/
theorem law_plain (S K Y d : Nat) (w : World) (hS : S < 18446744073709551616) (hK : K < 18446744073709551616) (hY64 : Y < 18446744073709551616) (hY : Finite Y) (h1 : ¬ NaN S) (h2 : Finite K) (hd : Ieee.double.sub S K = some d) (hdn : ¬ NaN d) (hd64 : d < 18446744073709551616)
    (hcell : ∀ k, k < 12 → w.cell? ⟨1, k, none⟩ = some (.float .f64 (tab.getD k 0))) :
    Calls Ybad.prog 3 #[.float .f64 S, .float .f64 K, .float .f64 Y] w fun e w' => e = .returned (.bool true) ∧ Below w.heap.size w w' := by
  have hn : Hid (¬ NaN Y) := fun h' => by unfold NaN at h'; unfold Finite at hY; omega
  have hni : Hid (¬ Inf Y) := fun h' => by unfold Inf at h'; unfold Finite at hY; omega
  have hki : Hid (¬ Inf K) := fun h' => by unfold Inf at h'; unfold Finite at h2; omega
  have HC : Hid _ := call_plain S K Y d w hS hK hY h1 h2 hd hdn hd64 hcell
  have n1 := fun wx => run_sub_some wx S K d hd
  have n2 : (FloatKind.f64.format.order d d != some .eq) = false := by
    show (Ieee.double.order d d != some .eq) = false
    rw [order_self hdn]; rfl
  have HN : Hid _ := pos_not_nan hdn
  have hb := fbits (pos d) w
  by_cases hgt : Ieee.double.order d 0 = some .gt
  · have n3 : (FloatKind.f64.format.order d 0 == some .gt) = true := by
      show (Ieee.double.order d 0 == some .gt) = true
      rw [hgt]; rfl
    have hp : pos d = d := if_pos hgt
    rw [hp] at HC HN hb
    clear h1 h2 hY hcell hd hdn hgt hp
    go_enter Ybad.func3, Ybad.ntmps3
    go_wp2_with fail
    refine (isnan_no _ _ hn.out).mono ?_; rintro e w' ⟨rfl, rfl⟩
    go_wp2_with fail
    refine (isinf_no _ _ hY64 hni.out).mono ?_; rintro e w' ⟨rfl, rfl⟩
    go_wp2_with fail
    refine Calls.mono HC.out ?_
    rintro e w1 ⟨rfl, rfl⟩
    go_wp2_with fail
    refine (isinf_no _ _ hK hki.out).mono ?_; rintro e w' ⟨rfl, rfl⟩
    go_wp2_with fail
    refine (isnan_no _ _ HN.out).mono ?_; rintro e w' ⟨rfl, rfl⟩
    go_wp2_with fail
    refine (isnan_no _ _ HN.out).mono ?_; rintro e w' ⟨rfl, rfl⟩
    go_wp2
    go_ret
    exact ⟨by simp, Below.refl _ _⟩
  · have n3 : (FloatKind.f64.format.order d 0 == some .gt) = false := by
      show (Ieee.double.order d 0 == some .gt) = false
      cases h : Ieee.double.order d 0 with
      | none => rfl
      | some o => cases o <;> first | rfl | exact absurd h hgt
    have hp : pos d = 0 := if_neg hgt
    rw [hp] at HC HN hb
    clear h1 h2 hY hcell hd hdn hgt hp
    go_enter Ybad.func3, Ybad.ntmps3
    go_wp2_with fail
    refine (isnan_no _ _ hn.out).mono ?_; rintro e w' ⟨rfl, rfl⟩
    go_wp2_with fail
    refine (isinf_no _ _ hY64 hni.out).mono ?_; rintro e w' ⟨rfl, rfl⟩
    go_wp2_with fail
    refine Calls.mono HC.out ?_
    rintro e w1 ⟨rfl, rfl⟩
    go_wp2_with fail
    refine (isinf_no _ _ hK hki.out).mono ?_; rintro e w' ⟨rfl, rfl⟩
    go_wp2_with fail
    refine (isnan_no _ _ HN.out).mono ?_; rintro e w' ⟨rfl, rfl⟩
    go_wp2_with fail
    refine (isnan_no _ _ HN.out).mono ?_; rintro e w' ⟨rfl, rfl⟩
    go_wp2
    go_ret
    exact ⟨by simp, Below.refl _ _⟩

end Go.Proofs.YbulkcypmDoor
