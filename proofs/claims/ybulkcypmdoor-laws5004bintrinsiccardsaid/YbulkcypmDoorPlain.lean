/-
  PLAIN LAWS on the model's doubles (Ieee): which words are NaNs, infinities, numbers; 'x * 1 = x'; a zero times a number; what '-' of two words is; 'max' against 0. No Go program in sight.
-/
import Derived.Laws.FloatArith
namespace Go.Proofs.YbulkcypmDoor
set_option linter.unusedVariables false
set_option linter.unusedSimpArgs false
open Ieee

/-- The numbers of the format, written out. -/
theorem sw : double.signWeight = 9223372036854775808 := by decide
theorem bn : double.binade = 4503599627370496 := by decide
theorem ir : double.infRung = 9218868437227405312 := by decide
theorem lp : double.leastPlace = -1074 := by decide

def sgn (b : Nat) : Bool := b / 9223372036854775808 % 2 == 1
def rung (b : Nat) : Nat := b % 9223372036854775808

theorem read_eq (b : Nat) : double.read b =
    if rung b < 4503599627370496 then .number (sgn b) (rung b) (-1074)
    else if rung b < 9218868437227405312 then .number (sgn b) (4503599627370496 + rung b % 4503599627370496) (-1074 + (rung b / 4503599627370496 - 1 : Nat))
    else if rung b = 9218868437227405312 then .infinity (sgn b)
    else .nan (sgn b) (rung b - 9218868437227405312) := by
  simp only [Format.read, sw, bn, ir, lp, rung, sgn]
  rfl

/-- A NaN's word; an infinity's. -/
def NaN (b : Nat) : Prop := 9218868437227405312 < rung b
def Inf (b : Nat) : Prop := rung b = 9218868437227405312
def Finite (b : Nat) : Prop := rung b < 9218868437227405312

theorem word_of (b : Nat) (h : b < 18446744073709551616) : double.word (sgn b) (rung b) = b := by
  unfold Format.word sgn rung
  rw [sw]
  by_cases hb : b < 9223372036854775808
  · have e : b / 9223372036854775808 = 0 := Nat.div_eq_of_lt hb
    rw [e, Nat.mod_eq_of_lt hb]; rfl
  · have e : b / 9223372036854775808 = 1 := by omega
    rw [e]
    show 9223372036854775808 + b % 9223372036854775808 = b
    omega

theorem sgn_word (s : Bool) (r : Nat) (h : r < 9223372036854775808) : sgn (double.word s r) = s ∧ rung (double.word s r) = r := by
  unfold Format.word sgn rung
  rw [sw]
  cases s
  · simp only [Bool.false_eq_true, if_false]
    exact ⟨by rw [Nat.div_eq_of_lt h]; rfl, Nat.mod_eq_of_lt h⟩
  · simp only [if_true]
    have e : (9223372036854775808 + r) / 9223372036854775808 = 1 := by omega
    exact ⟨by rw [e]; rfl, by omega⟩

theorem read_nan {b : Nat} (h : NaN b) : double.read b = .nan (sgn b) (rung b - 9218868437227405312) := by
  unfold NaN at h
  rw [read_eq, if_neg (by omega), if_neg (by omega), if_neg (by omega)]
theorem read_inf {b : Nat} (h : Inf b) : double.read b = .infinity (sgn b) := by
  unfold Inf at h
  rw [read_eq, if_neg (by omega), if_neg (by omega), if_pos h]

/-- A finite word's number: its rung out of mag and place. -/
theorem read_fin {b : Nat} (h : Finite b) : ∃ (m : Nat) (k : Nat), double.read b = .number (sgn b) m (-1074 + k) ∧ m < 9007199254740992 ∧ ((k = 0 ∧ m < 4503599627370496 ∧ rung b = m) ∨ (4503599627370496 ≤ m ∧ rung b = k * 4503599627370496 + m)) := by
  unfold Finite at h
  rw [read_eq]
  by_cases h1 : rung b < 4503599627370496
  · rw [if_pos h1]
    exact ⟨rung b, 0, rfl, by omega, Or.inl ⟨rfl, h1, rfl⟩⟩
  · rw [if_neg h1, if_pos h]
    refine ⟨_, _, rfl, ?_, Or.inr ⟨by omega, ?_⟩⟩
    · omega
    · have := Nat.div_add_mod (rung b) 4503599627370496
      have hp : 1 ≤ rung b / 4503599627370496 := by omega
      omega

theorem cases3 (b : Nat) : NaN b ∨ Inf b ∨ Finite b := by unfold NaN Inf Finite; omega

/-! ### order -/
theorem order_nan_left {a b : Nat} (h : NaN a) : double.order a b = none := by
  unfold Format.order; rw [read_nan h]; rfl
theorem order_nan_right {a b : Nat} (h : NaN b) : double.order a b = none := by
  unfold Format.order
  rw [read_nan h]
  cases double.read a <;> rfl
theorem order_self {b : Nat} (h : ¬ NaN b) : double.order b b = some .eq := by
  unfold Format.order
  rcases cases3 b with h1 | h1 | h1
  · exact absurd h1 h
  · rw [read_inf h1]; simp [Datum.order]
  · obtain ⟨m, k, e, _⟩ := read_fin h1
    rw [e]; simp [Datum.order]

/-! ### 'x * 1' -/
theorem log2_normal (m : Nat) (h0 : 4503599627370496 ≤ m) (h1 : m < 9007199254740992) : (m * 4503599627370496).log2 = 104 := by
  have hne : m * 4503599627370496 ≠ 0 := by omega
  have p104 : (2 : Nat) ^ 104 = 20282409603651670423947251286016 := by decide
  have p105 : (2 : Nat) ^ 105 = 40564819207303340847894502572032 := by decide
  have a : (m * 4503599627370496).log2 < 105 := (Nat.log2_lt hne).2 (by rw [p105]; omega)
  have b : 104 ≤ (m * 4503599627370496).log2 := (Nat.le_log2 hne).2 (by rw [p104]; omega)
  omega
theorem log2_sub (m : Nat) (h0 : m ≠ 0) (h1 : m < 4503599627370496) : (m * 4503599627370496).log2 ≤ 103 ∧ 52 ≤ (m * 4503599627370496).log2 := by
  have hne : m * 4503599627370496 ≠ 0 := by omega
  have p104 : (2 : Nat) ^ 104 = 20282409603651670423947251286016 := by decide
  have p52 : (2 : Nat) ^ 52 = 4503599627370496 := by decide
  have a : (m * 4503599627370496).log2 < 104 := (Nat.log2_lt hne).2 (by rw [p104]; omega)
  have b : 52 ≤ (m * 4503599627370496).log2 := (Nat.le_log2 hne).2 (by rw [p52]; omega)
  omega

theorem cut52 (s : Bool) (m : Nat) (h : m ≠ 0) (hl : 52 ≤ (m * 4503599627370496).log2) : Toward.even.cut s (m * 4503599627370496) 52 = m := by
  have e : min 52 ((m * 4503599627370496).log2 + 2) = 52 := by omega
  unfold Toward.cut
  simp only [e]
  have e2 : (1 : Nat) <<< 52 = 4503599627370496 := by decide
  rw [e2, Nat.mul_mod_left, Nat.mul_div_cancel _ (by decide)]
  simp

/-- One, as a word. -/
def one : Nat := 4607182418800017408
theorem read_one : double.read one = .number false 4503599627370496 (-52) := by decide

theorem mul_one {b : Nat} (hb : b < 18446744073709551616) (h : ¬ NaN b) : double.mul b one = some b := by
  unfold Format.mul
  rw [read_one]
  rcases cases3 b with h1 | h1 | h1
  · exact absurd h1 h
  · rw [read_inf h1]
    simp only [Datum.product, Bool.xor_false, show ¬ (4503599627370496 = 0) by decide, if_false, Option.map_some, Format.write, ir]
    rw [← h1, word_of b hb]
  · obtain ⟨m, k, e, hm, hr⟩ := read_fin h1
    rw [e]
    simp only [Datum.product, Bool.xor_false, Option.map_some, Format.write]
    congr 1
    unfold Format.nearest
    by_cases h0 : m = 0
    · subst h0
      rw [Nat.zero_mul, if_pos rfl]
      have hr0 : rung b = 0 := by omega
      rw [← hr0, word_of b hb]
    · rw [if_neg (by omega)]
      have hf : (double.fractionBits : Int) = 52 := rfl
      have hlast : max (-1074 + (k : Int) + -52 + ((m * 4503599627370496).log2 : Int) - double.fractionBits) double.leastPlace = -1074 + (k : Int) := by
        rw [hf, lp]
        rcases hr with ⟨hk, h2, _⟩ | ⟨h2, _⟩
        · have := log2_sub m h0 h2; omega
        · have := log2_normal m h2 hm; omega
      have hl52 : 52 ≤ (m * 4503599627370496).log2 := by
        rcases hr with ⟨hk, h2, _⟩ | ⟨h2, _⟩
        · exact (log2_sub m h0 h2).2
        · have := log2_normal m h2 hm; omega
      simp only [hlast]
      have e1 : (-1074 + (k : Int) + -52 - (-1074 + (k : Int))).toNat = 0 := by omega
      have e2 : (-1074 + (k : Int) - (-1074 + (k : Int) + -52)).toNat = 52 := by omega
      have e3 : (-1074 + (k : Int) - double.leastPlace).toNat = k := by rw [lp]; omega
      rw [e1, e2, e3, Nat.shiftLeft_zero, cut52 _ m h0 hl52, bn, ir]
      have hrk : k * 4503599627370496 + m = rung b := by
        rcases hr with ⟨hk, _, h2⟩ | ⟨_, h2⟩
        · subst hk; omega
        · omega
      unfold Finite at h1
      rw [hrk, Nat.min_eq_left (by omega), word_of b hb]

theorem mul_nan {b c : Nat} (h : NaN b) : double.mul b c = none := by
  unfold Format.mul; rw [read_nan h]; rfl

/-- A negative zero times a number that is finite: a zero. -/
theorem negzero_mul {b : Nat} (h : Finite b) : double.mul 9223372036854775808 b = some 0 ∨ double.mul 9223372036854775808 b = some 9223372036854775808 := by
  unfold Format.mul
  have hz : double.read 9223372036854775808 = .number true 0 (-1074) := by decide
  obtain ⟨m, k, e, _⟩ := read_fin h
  rw [hz, e]
  simp only [Datum.product, Nat.zero_mul, Option.map_some, Format.write, Format.nearest, if_true]
  cases sgn b
  · exact Or.inr rfl
  · exact Or.inl rfl

/-! ### '-' -/
theorem sub_nan_left {a b : Nat} (h : NaN a) : double.sub a b = none := by
  unfold Format.sub; rw [read_nan h]; rfl
theorem sub_nan_right {a b : Nat} (h : NaN b) : double.sub a b = none := by
  unfold Format.sub
  rw [read_nan h]
  cases double.read a <;> rfl

theorem not_nan_word (s : Bool) (r : Nat) (h : r ≤ 9218868437227405312) : ¬ NaN (double.word s r) := by
  unfold NaN
  rw [(sgn_word s r (by omega)).2]
  omega

theorem not_nan_number (s : Bool) (m : Nat) (e : Int) : ¬ NaN (double.write (.number s m e)) := by
  show ¬ NaN (double.nearest s m e)
  unfold Format.nearest
  split
  · exact not_nan_word _ _ (by decide)
  · exact not_nan_word _ _ (by rw [ir]; exact Nat.min_le_right _ _)

theorem not_nan_infinity (s : Bool) : ¬ NaN (double.write (.infinity s)) := not_nan_word s _ (by rw [ir]; exact Nat.le_refl _)

/-- The difference of a word that is no NaN and a finite one: a word that is no NaN. -/
theorem sub_some {a b : Nat} (ha : ¬ NaN a) (hb : Finite b) : ∃ d, double.sub a b = some d ∧ ¬ NaN d ∧ d < 18446744073709551616 := by
  obtain ⟨n, j, eb, _⟩ := read_fin hb
  rcases cases3 a with h1 | h1 | h1
  · exact absurd h1 ha
  · have e : double.sub a b = some (double.write (.infinity (sgn a))) := by
      unfold Format.sub; rw [read_inf h1, eb]; rfl
    exact ⟨_, e, not_nan_infinity _, double.sub_lt e⟩
  · obtain ⟨m, k, ea, _⟩ := read_fin h1
    have e : ∃ s m e, double.sub a b = some (double.write (.number s m e)) := by
      unfold Format.sub; rw [ea, eb]; exact ⟨_, _, _, rfl⟩
    obtain ⟨s, m, e, he⟩ := e
    exact ⟨_, he, not_nan_number _ _ _, double.sub_lt he⟩

/-! ### against 0 -/
theorem read_zero : double.read 0 = .number false 0 (-1074) := by decide

theorem order_zero {d : Nat} (h : ¬ NaN d) : ∃ o, double.order d 0 = some o := by
  unfold Format.order
  rw [read_zero]
  rcases cases3 d with h1 | h1 | h1
  · exact absurd h1 h
  · rw [read_inf h1]; exact ⟨_, rfl⟩
  · obtain ⟨m, k, e, _⟩ := read_fin h1
    rw [e]; exact ⟨_, rfl⟩

/-- A word that is equal to 0 and not negative is 0's word. -/
theorem zero_of_eq {d : Nat} (hd : d < 18446744073709551616) (h : double.order d 0 = some .eq) (hn : (double.read d).neg = false) : d = 0 := by
  unfold Format.order at h
  rw [read_zero] at h
  rcases cases3 d with h1 | h1 | h1
  · rw [read_nan h1] at h; cases h
  · rw [read_inf h1] at h
    simp only [Datum.order] at h
    cases hs : sgn d <;> rw [hs] at h <;> cases h
  · obtain ⟨m, k, e, hm, hr⟩ := read_fin h1
    rw [e] at h hn
    have hs : sgn d = false := hn
    simp only [Datum.order, hs, signed, Bool.false_eq_true, if_false, Option.some.injEq] at h
    have h0 := Int.compare_eq_eq.1 h
    have hz : m = 0 := by
      simp only [Nat.shiftLeft_eq, Nat.zero_mul] at h0
      have h0' : m * 2 ^ (-1074 + (k : Int) - min (-1074 + (k : Int)) (-1074)).toNat = 0 := Int.ofNat.inj h0
      rcases Nat.mul_eq_zero.1 h0' with h2 | h2
      · exact h2
      · exact absurd h2 (Nat.ne_of_gt (Nat.two_pow_pos _))
    have hr0 : rung d = 0 := by omega
    have := word_of d hd
    rw [hs, hr0] at this
    exact this.symm

/-! ### infinities -/
theorem and_low (b : Nat) : b &&& (18446744073709551615 - 9223372036854775808) = rung b := by
  have e : 18446744073709551615 - 9223372036854775808 = 2 ^ 63 - 1 := by decide
  rw [e, Nat.and_two_pow_sub_one_eq_mod]
  rfl
theorem rung_lt (b : Nat) : rung b < 9223372036854775808 := Nat.mod_lt _ (by decide)
theorem rung_rung (b : Nat) : rung (rung b) = rung b := Nat.mod_eq_of_lt (rung_lt b)
theorem sgn_rung (b : Nat) : sgn (rung b) = false := by
  unfold sgn
  rw [Nat.div_eq_of_lt (rung_lt b)]; rfl

theorem gt_max_inf {b : Nat} (h : Inf b) : double.order (rung b) 9218868437227405311 = some .gt := by
  unfold Inf at h
  rw [h]
  decide
theorem gt_max_not {b : Nat} (h : ¬ Inf b) : (double.order (rung b) 9218868437227405311 == some .gt) = false := by
  have hm : double.read 9218868437227405311 = .number false 9007199254740991 971 := by decide
  rcases cases3 b with h1 | h1 | h1
  · have h2 : NaN (rung b) := by unfold NaN at h1 ⊢; rw [rung_rung]; exact h1
    rw [order_nan_left h2]; rfl
  · exact absurd h1 h
  · have h2 : Finite (rung b) := by unfold Finite at h1 ⊢; rw [rung_rung]; exact h1
    obtain ⟨m, k, e, hm9, hr⟩ := read_fin h2
    rw [rung_rung] at hr
    rw [sgn_rung] at e
    unfold Finite at h1
    have hk : k ≤ 2045 := by
      rcases hr with ⟨hk, _, _⟩ | ⟨_, hk⟩ <;> omega
    unfold Format.order
    rw [e, hm]
    simp only [Datum.order, signed, Bool.false_eq_true, if_false]
    have eb : min (-1074 + (k : Int)) 971 = -1074 + (k : Int) := by omega
    rw [eb]
    have e0 : (-1074 + (k : Int) - (-1074 + (k : Int))).toNat = 0 := by omega
    rw [e0, Nat.shiftLeft_zero, Nat.shiftLeft_eq]
    have hle : m ≤ 9007199254740991 * 2 ^ (971 - (-1074 + (k : Int))).toNat := by
      have := Nat.mul_le_mul_left 9007199254740991 (Nat.two_pow_pos (971 - (-1074 + (k : Int))).toNat)
      omega
    generalize 9007199254740991 * 2 ^ (971 - (-1074 + (k : Int))).toNat = X at hle
    have : compare (m : Int) (X : Int) ≠ .gt := by
      rw [Ne, Int.compare_eq_gt]; omega
    cases hc : compare (m : Int) (X : Int) with
    | lt => rfl
    | eq => rfl
    | gt => exact absurd hc this

end Go.Proofs.YbulkcypmDoor
