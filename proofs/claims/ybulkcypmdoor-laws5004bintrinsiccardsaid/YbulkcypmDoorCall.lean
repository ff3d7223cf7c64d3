/-
  value.Call (7) at volatility 0, no rate, no yield, finite years: THE WALKS.
-/
import Derived.Test.YbulkcypmDoorMath
import Derived.WalkSmall
namespace Go.Proofs.YbulkcypmDoor
set_option linter.unusedVariables false
set_option linter.unusedSimpArgs false
open Go.RowKit

/-- What the tape answers where a NaN's bits are asked for. -/
def nanAt (w : World) (q : Question) : Nat := q.cut (w.tape w.drawn q)
theorem nan_word (t : Nat) : NaN (t % 2 * 2 ^ 63 + 0x7ff0000000000000 + 1 + t / 2 % (2 ^ 52 - 1)) ∧ t % 2 * 2 ^ 63 + 0x7ff0000000000000 + 1 + t / 2 % (2 ^ 52 - 1) < 18446744073709551616 := by
  have hr : t / 2 % (2 ^ 52 - 1) < 2 ^ 52 - 1 := Nat.mod_lt _ (by decide)
  generalize t / 2 % (2 ^ 52 - 1) = r at hr
  unfold NaN rung
  have h2 : t % 2 = 0 ∨ t % 2 = 1 := by omega
  rcases h2 with h2 | h2 <;> rw [h2] <;> omega
theorem nanAt_bits (w : World) (x y : Nat) : NaN (nanAt w (.nanBits .f64 x y)) ∧ nanAt w (.nanBits .f64 x y) < 18446744073709551616 := nan_word (w.tape w.drawn (.nanBits .f64 x y))
theorem nanAt_max (w : World) (b : Bool) (x y : Nat) : NaN (nanAt w (.nanMinMax .f64 b x y)) ∧ nanAt w (.nanMinMax .f64 b x y) < 18446744073709551616 := nan_word (w.tape w.drawn (.nanMinMax .f64 b x y))

theorem run_mul_nan (w : World) (x y : Nat) (h : Ieee.double.mul x y = none) : (binOp .mul 22 (.float .f64 x) (.float .f64 y)).run Ybad.prog w = .ok (.float .f64 (nanAt w (.nanBits .f64 x y))) w.drew := by
  have h' : FloatKind.f64.format.mul x y = none := h
  simp [binOp, Op.floatArith, h', nanAt, Question.forced]
theorem run_sub_nan (w : World) (x y : Nat) (h : Ieee.double.sub x y = none) : (binOp .sub 22 (.float .f64 x) (.float .f64 y)).run Ybad.prog w = .ok (.float .f64 (nanAt w (.nanBits .f64 x y))) w.drew := by
  have h' : FloatKind.f64.format.sub x y = none := h
  simp [binOp, Op.floatArith, h', nanAt, Question.forced]
theorem run_mul_some (w : World) (x y r : Nat) (h : Ieee.double.mul x y = some r) : (binOp .mul 22 (.float .f64 x) (.float .f64 y)).run Ybad.prog w = .ok (.float .f64 r) w := run_float_arith w .mul 22 .f64 x y r h
theorem run_sub_some (w : World) (x y r : Nat) (h : Ieee.double.sub x y = some r) : (binOp .sub 22 (.float .f64 x) (.float .f64 y)).run Ybad.prog w = .ok (.float .f64 r) w := run_float_arith w .sub 22 .f64 x y r h
theorem run_neg_zero (w : World) : (Op.unary .neg (.float .f64 0)).run Ybad.prog w = .ok (.float .f64 9223372036854775808) w := by kernel_rfl

/-- max against 0. -/
def pos (d : Nat) : Nat := if Ieee.double.order d 0 = some .gt then d else 0
theorem run_max_nan (ts : Array TypeId) (t : TypeId) (w : World) (d : Nat) (h : Ieee.double.order d 0 = none) : (Builtin.max_ ts t #[.float .f64 d, .float .f64 0]).run Ybad.prog w = .ok (.float .f64 (nanAt w (.nanMinMax .f64 true d 0))) w.drew := by
  have h' : FloatKind.f64.format.order d 0 = none := h
  simp [Builtin.max_, Builtin.max2, h', nanAt, Question.forced]
theorem run_max_some (ts : Array TypeId) (t : TypeId) (w : World) (d : Nat) (hd : d < 18446744073709551616) (h : ¬ NaN d) : (Builtin.max_ ts t #[.float .f64 d, .float .f64 0]).run Ybad.prog w = .ok (.float .f64 (pos d)) w := by
  obtain ⟨o, ho⟩ := order_zero h
  have h' : FloatKind.f64.format.order d 0 = some o := ho
  unfold pos
  cases o with
  | lt => simp [Builtin.max_, Builtin.max2, h', ho]
  | gt => simp [Builtin.max_, Builtin.max2, h', ho]
  | eq =>
    have e : (if (FloatKind.f64.decode d).neg then 0 else d) = 0 := by
      cases hn : (FloatKind.f64.decode d).neg with
      | true => rfl
      | false => simpa using zero_of_eq hd ho hn
    simp [Builtin.max_, Builtin.max2, h', ho]
    simpa using e

set_option maxHeartbeats 2000000 in
/-- An infinite strike: NaN. -/
theorem call_inf (S K Y : Nat) (w : World) (hS : S < 18446744073709551616) (hK : K < 18446744073709551616) (hY : Finite Y) (h : Inf K)
    (hcell : ∀ k, k < 12 → w.cell? ⟨1, k, none⟩ = some (.float .f64 (tab.getD k 0))) :
    Calls Ybad.prog 7 #[.float .f64 S, .float .f64 K, .float .f64 Y, .float .f64 0, .float .f64 0, .float .f64 0] w fun e w' => ∃ G m, e = .returned (.float .f64 G) ∧ w' = w.drewN m ∧ NaN G ∧ G < 18446744073709551616 := by
  obtain ⟨x, hx, hmul⟩ : ∃ x, (x = 0 ∨ x = 9223372036854775808) ∧ Ieee.double.mul 9223372036854775808 Y = some x := by
    rcases negzero_mul hY with h | h
    · exact ⟨_, Or.inl rfl, h⟩
    · exact ⟨_, Or.inr rfl, h⟩
  have HC : Hid _ := hcell
  have HX : Hid _ := hx
  have n1 := run_neg_zero
  have n2 := fun wx => run_mul_some wx _ _ _ hmul
  have hKn : ¬ NaN K := by unfold NaN; unfold Inf at h; omega
  have n3 := fun wx => run_mul_some wx K 4607182418800017408 K (mul_one hK hKn)
  have hG : NaN 9221120237041090561 := by unfold NaN; decide
  by_cases hSn : NaN S
  · have n4 := fun wx => run_mul_nan wx S 4607182418800017408 (mul_nan hSn)
    have HI : Hid _ := h
    have HG : Hid _ := hG
    clear hcell hx hmul hKn hG h hSn hY
    go_enter Ybad.func7, Ybad.ntmps7
    go_wp2_with (first | (go_at_call 13; refine (exp13 x HX.out _ (by exact fun k hk => HC.out k hk)).mono ?_; rintro e w' ⟨rfl, rfl⟩) | (go_at_call 6; refine (isinf_yes K _ hK HI.out).mono ?_; rintro e w' ⟨rfl, rfl⟩) | (go_at_call 8; refine (nan8 _).mono ?_; rintro e w' ⟨rfl, rfl⟩))
    go_ret
    exact ⟨_, 1, rfl, rfl, HG.out, by decide⟩
  · have n4 := fun wx => run_mul_some wx S 4607182418800017408 S (mul_one hS hSn)
    have HI : Hid _ := h
    have HG : Hid _ := hG
    clear hcell hx hmul hKn hG h hSn hY
    go_enter Ybad.func7, Ybad.ntmps7
    go_wp2_with (first | (go_at_call 13; refine (exp13 x HX.out _ (by exact fun k hk => HC.out k hk)).mono ?_; rintro e w' ⟨rfl, rfl⟩) | (go_at_call 6; refine (isinf_yes K _ hK HI.out).mono ?_; rintro e w' ⟨rfl, rfl⟩) | (go_at_call 8; refine (nan8 _).mono ?_; rintro e w' ⟨rfl, rfl⟩))
    go_ret
    exact ⟨_, 0, rfl, rfl, HG.out, by decide⟩

set_option maxHeartbeats 2000000 in
/-- Both NaN. -/
theorem call_nan_both (S K Y : Nat) (w : World) (hS : S < 18446744073709551616) (hK : K < 18446744073709551616) (hY : Finite Y) (h1 : NaN S) (h2 : NaN K)
    (hcell : ∀ k, k < 12 → w.cell? ⟨1, k, none⟩ = some (.float .f64 (tab.getD k 0))) :
    Calls Ybad.prog 7 #[.float .f64 S, .float .f64 K, .float .f64 Y, .float .f64 0, .float .f64 0, .float .f64 0] w fun e w' => ∃ G m, e = .returned (.float .f64 G) ∧ w' = w.drewN m ∧ NaN G ∧ G < 18446744073709551616 := by
  obtain ⟨x, hx, hmul⟩ : ∃ x, (x = 0 ∨ x = 9223372036854775808) ∧ Ieee.double.mul 9223372036854775808 Y = some x := by
    rcases negzero_mul hY with h | h
    · exact ⟨_, Or.inl rfl, h⟩
    · exact ⟨_, Or.inr rfl, h⟩
  have HC : Hid _ := hcell
  have HX : Hid _ := hx
  have n1 := run_neg_zero
  have n2 := fun wx => run_mul_some wx _ _ _ hmul
  have n0 : (FloatKind.f64.format.order 0 0 == some .eq) = true := by decide +kernel
  have n3 := fun wx => run_mul_nan wx S 4607182418800017408 (mul_nan h1)
  have n4 := fun wx => run_mul_nan wx K 4607182418800017408 (mul_nan h2)
  have hA := nanAt_bits w S 4607182418800017408
  have hB : Hid _ := nanAt_bits w.drew K 4607182418800017408
  have hnI : Hid (¬ Inf (nanAt w.drew (.nanBits .f64 K 4607182418800017408))) := fun h => by have := hB.out.1; unfold NaN at this; unfold Inf at h; omega
  have n5 := fun wx => run_sub_nan wx (nanAt w (.nanBits .f64 S 4607182418800017408)) (nanAt w.drew (.nanBits .f64 K 4607182418800017408)) (sub_nan_left hA.1)
  have hD := nanAt_bits w.drew.drew (nanAt w (.nanBits .f64 S 4607182418800017408)) (nanAt w.drew (.nanBits .f64 K 4607182418800017408))
  have n6 := fun ts t wx => run_max_nan ts t wx (nanAt w.drew.drew (.nanBits .f64 (nanAt w (.nanBits .f64 S 4607182418800017408)) (nanAt w.drew (.nanBits .f64 K 4607182418800017408)))) (order_nan_left hD.1)
  have HG : Hid _ := nanAt_max w.drew.drew.drew true (nanAt w.drew.drew (.nanBits .f64 (nanAt w (.nanBits .f64 S 4607182418800017408)) (nanAt w.drew (.nanBits .f64 K 4607182418800017408)))) 0
  clear hcell hx hmul hD hY hA
  go_enter Ybad.func7, Ybad.ntmps7
  go_wp2_with (first | (go_at_call 13; refine (exp13 x HX.out _ (by exact fun k hk => HC.out k hk)).mono ?_; rintro e w' ⟨rfl, rfl⟩) | (go_at_call 6; refine (isinf_no _ _ hB.out.2 hnI.out).mono ?_; rintro e w' ⟨rfl, rfl⟩))
  go_ret
  exact ⟨_, 4, rfl, rfl, HG.out⟩

set_option maxHeartbeats 2000000 in
/-- A NaN for the spot alone. -/
theorem call_nan_spot (S K Y : Nat) (w : World) (hS : S < 18446744073709551616) (hK : K < 18446744073709551616) (hY : Finite Y) (h1 : NaN S) (h2 : Finite K)
    (hcell : ∀ k, k < 12 → w.cell? ⟨1, k, none⟩ = some (.float .f64 (tab.getD k 0))) :
    Calls Ybad.prog 7 #[.float .f64 S, .float .f64 K, .float .f64 Y, .float .f64 0, .float .f64 0, .float .f64 0] w fun e w' => ∃ G m, e = .returned (.float .f64 G) ∧ w' = w.drewN m ∧ NaN G ∧ G < 18446744073709551616 := by
  obtain ⟨x, hx, hmul⟩ : ∃ x, (x = 0 ∨ x = 9223372036854775808) ∧ Ieee.double.mul 9223372036854775808 Y = some x := by
    rcases negzero_mul hY with h | h
    · exact ⟨_, Or.inl rfl, h⟩
    · exact ⟨_, Or.inr rfl, h⟩
  have HC : Hid _ := hcell
  have HX : Hid _ := hx
  have n1 := run_neg_zero
  have n2 := fun wx => run_mul_some wx _ _ _ hmul
  have n0 : (FloatKind.f64.format.order 0 0 == some .eq) = true := by decide +kernel
  have n3 := fun wx => run_mul_nan wx S 4607182418800017408 (mul_nan h1)
  have n4 := fun wx => run_mul_some wx K 4607182418800017408 K (mul_one hK (by unfold NaN; unfold Finite at h2; omega))
  have hA := nanAt_bits w S 4607182418800017408
  have hnI : Hid (¬ Inf K) := fun h => by unfold Finite at h2; unfold Inf at h; omega
  have n5 := fun wx => run_sub_nan wx (nanAt w (.nanBits .f64 S 4607182418800017408)) K (sub_nan_left hA.1)
  have hD := nanAt_bits w.drew (nanAt w (.nanBits .f64 S 4607182418800017408)) (K)
  have n6 := fun ts t wx => run_max_nan ts t wx (nanAt w.drew (.nanBits .f64 (nanAt w (.nanBits .f64 S 4607182418800017408)) (K))) (order_nan_left hD.1)
  have HG : Hid _ := nanAt_max w.drew.drew true (nanAt w.drew (.nanBits .f64 (nanAt w (.nanBits .f64 S 4607182418800017408)) (K))) 0
  clear hcell hx hmul hD hY hA
  go_enter Ybad.func7, Ybad.ntmps7
  go_wp2_with (first | (go_at_call 13; refine (exp13 x HX.out _ (by exact fun k hk => HC.out k hk)).mono ?_; rintro e w' ⟨rfl, rfl⟩) | (go_at_call 6; refine (isinf_no _ _ hK hnI.out).mono ?_; rintro e w' ⟨rfl, rfl⟩))
  go_ret
  exact ⟨_, 3, rfl, rfl, HG.out⟩

set_option maxHeartbeats 2000000 in
/-- A NaN for the strike alone. -/
theorem call_nan_strike (S K Y : Nat) (w : World) (hS : S < 18446744073709551616) (hK : K < 18446744073709551616) (hY : Finite Y) (h1 : ¬ NaN S) (h2 : NaN K)
    (hcell : ∀ k, k < 12 → w.cell? ⟨1, k, none⟩ = some (.float .f64 (tab.getD k 0))) :
    Calls Ybad.prog 7 #[.float .f64 S, .float .f64 K, .float .f64 Y, .float .f64 0, .float .f64 0, .float .f64 0] w fun e w' => ∃ G m, e = .returned (.float .f64 G) ∧ w' = w.drewN m ∧ NaN G ∧ G < 18446744073709551616 := by
  obtain ⟨x, hx, hmul⟩ : ∃ x, (x = 0 ∨ x = 9223372036854775808) ∧ Ieee.double.mul 9223372036854775808 Y = some x := by
    rcases negzero_mul hY with h | h
    · exact ⟨_, Or.inl rfl, h⟩
    · exact ⟨_, Or.inr rfl, h⟩
  have HC : Hid _ := hcell
  have HX : Hid _ := hx
  have n1 := run_neg_zero
  have n2 := fun wx => run_mul_some wx _ _ _ hmul
  have n0 : (FloatKind.f64.format.order 0 0 == some .eq) = true := by decide +kernel
  have n3 := fun wx => run_mul_some wx S 4607182418800017408 S (mul_one hS h1)
  have n4 := fun wx => run_mul_nan wx K 4607182418800017408 (mul_nan h2)
  have hA := nanAt_bits w K 4607182418800017408
  have hB : Hid _ := hA
  have hnI : Hid (¬ Inf (nanAt w (.nanBits .f64 K 4607182418800017408))) := fun h => by have := hB.out.1; unfold NaN at this; unfold Inf at h; omega
  have n5 := fun wx => run_sub_nan wx S (nanAt w (.nanBits .f64 K 4607182418800017408)) (sub_nan_right hA.1)
  have hD := nanAt_bits w.drew (S) (nanAt w (.nanBits .f64 K 4607182418800017408))
  have n6 := fun ts t wx => run_max_nan ts t wx (nanAt w.drew (.nanBits .f64 (S) (nanAt w (.nanBits .f64 K 4607182418800017408)))) (order_nan_left hD.1)
  have HG : Hid _ := nanAt_max w.drew.drew true (nanAt w.drew (.nanBits .f64 (S) (nanAt w (.nanBits .f64 K 4607182418800017408)))) 0
  clear hcell hx hmul hD hY hA
  go_enter Ybad.func7, Ybad.ntmps7
  go_wp2_with (first | (go_at_call 13; refine (exp13 x HX.out _ (by exact fun k hk => HC.out k hk)).mono ?_; rintro e w' ⟨rfl, rfl⟩) | (go_at_call 6; refine (isinf_no _ _ hB.out.2 hnI.out).mono ?_; rintro e w' ⟨rfl, rfl⟩))
  go_ret
  exact ⟨_, 3, rfl, rfl, HG.out⟩

set_option maxHeartbeats 2000000 in
/-- No NaN, a finite strike: the intrinsic value. -/
theorem call_plain (S K Y d : Nat) (w : World) (hS : S < 18446744073709551616) (hK : K < 18446744073709551616) (hY : Finite Y) (h1 : ¬ NaN S) (h2 : Finite K) (hd : Ieee.double.sub S K = some d) (hdn : ¬ NaN d) (hd64 : d < 18446744073709551616)
    (hcell : ∀ k, k < 12 → w.cell? ⟨1, k, none⟩ = some (.float .f64 (tab.getD k 0))) :
    Calls Ybad.prog 7 #[.float .f64 S, .float .f64 K, .float .f64 Y, .float .f64 0, .float .f64 0, .float .f64 0] w fun e w' => e = .returned (.float .f64 (pos d)) ∧ w' = w := by
  obtain ⟨x, hx, hmul⟩ : ∃ x, (x = 0 ∨ x = 9223372036854775808) ∧ Ieee.double.mul 9223372036854775808 Y = some x := by
    rcases negzero_mul hY with h | h
    · exact ⟨_, Or.inl rfl, h⟩
    · exact ⟨_, Or.inr rfl, h⟩
  have HC : Hid _ := hcell
  have HX : Hid _ := hx
  have n1 := run_neg_zero
  have n2 := fun wx => run_mul_some wx _ _ _ hmul
  have n0 : (FloatKind.f64.format.order 0 0 == some .eq) = true := by decide +kernel
  have n3 := fun wx => run_mul_some wx S 4607182418800017408 S (mul_one hS h1)
  have n4 := fun wx => run_mul_some wx K 4607182418800017408 K (mul_one hK (by unfold NaN; unfold Finite at h2; omega))
  have hnI : Hid (¬ Inf K) := fun h => by unfold Finite at h2; unfold Inf at h; omega
  have n5 := fun wx => run_sub_some wx S K d hd
  have n6 := fun ts t wx => run_max_some ts t wx d hd64 hdn
  clear hcell hx hmul hY hd hdn h1 h2
  go_enter Ybad.func7, Ybad.ntmps7
  go_wp2_with (first | (go_at_call 13; refine (exp13 x HX.out _ (by exact fun k hk => HC.out k hk)).mono ?_; rintro e w' ⟨rfl, rfl⟩) | (go_at_call 6; refine (isinf_no _ _ hK hnI.out).mono ?_; rintro e w' ⟨rfl, rfl⟩))
  go_ret
  exact ⟨rfl, rfl⟩

end Go.Proofs.YbulkcypmDoor
