/-
  PLAIN LAWS for the varints of this seat: what the bytes of a varint spell ('acc'), 'x | y << s' as a sum, varint.Len. No Go program in sight (the model's own 'bits', 'wrap' alone).
-/
import Derived.Lib.VarintBits
import Derived.Lib.BitFns
namespace Go.Proofs.YbulkcynwDoor
set_option linter.unusedVariables false
set_option linter.unusedSimpArgs false

/-- What the low seven bits of the first k bytes spell, the least first. -/
def acc (zs : List Int) : Nat → Int
  | 0 => 0
  | k + 1 => acc zs k + zs.getD k 0 % 128 * 2 ^ (7 * k)

theorem pow_step (k : Nat) : (2 : Int) ^ (7 * (k + 1)) = 2 ^ (7 * k) * 128 := by
  rw [Nat.mul_succ, Int.pow_add]; rfl

theorem pow_pos7 (k : Nat) : (0 : Int) < 2 ^ (7 * k) := Int.pow_pos (by decide)

theorem pow_mono7 {a b : Nat} (h : a ≤ b) : (2 : Int) ^ a ≤ 2 ^ b := by
  have : (2 : Nat) ^ a ≤ 2 ^ b := Nat.pow_le_pow_right (by decide) h
  exact_mod_cast this

theorem acc_bounds (zs : List Int) : ∀ k, 0 ≤ acc zs k ∧ acc zs k < 2 ^ (7 * k)
  | 0 => by simp [acc]
  | k + 1 => by
    have ih := acc_bounds zs k
    have hp := pow_pos7 k
    have m0 : 0 ≤ zs.getD k 0 % 128 := Int.emod_nonneg _ (by decide)
    have m1 : zs.getD k 0 % 128 < 128 := Int.emod_lt_of_pos _ (by decide)
    have l0 : 0 ≤ zs.getD k 0 % 128 * 2 ^ (7 * k) := Int.mul_nonneg m0 (by omega)
    have l1 : zs.getD k 0 % 128 * 2 ^ (7 * k) ≤ 127 * 2 ^ (7 * k) := Int.mul_le_mul_of_nonneg_right (by omega) (by omega)
    rw [pow_step]
    show 0 ≤ acc zs k + zs.getD k 0 % 128 * 2 ^ (7 * k) ∧ acc zs k + zs.getD k 0 % 128 * 2 ^ (7 * k) < _
    omega

/-- 'a | z << 7k' where a lies below 2^7k and nothing is lost. -/
theorem or_low (a z : Int) (k : Nat) (ha : 0 ≤ a) (ha' : a < 2 ^ (7 * k)) (hk : k ≤ 9) (hz : 0 ≤ z) (hz' : z * 2 ^ (7 * k) < 18446744073709551616) :
    bits .or .u64 a (IntKind.u64.wrap (IntKind.u64.wrap z * 2 ^ (7 * k))) = a + z * 2 ^ (7 * k) := by
  have hp := pow_pos7 k
  have hz1 : z ≤ z * 2 ^ (7 * k) := by
    have := Int.mul_le_mul_of_nonneg_left (show (1 : Int) ≤ 2 ^ (7 * k) by omega) hz
    omega
  have h0 : 0 ≤ z * 2 ^ (7 * k) := Int.mul_nonneg hz (by omega)
  rw [u64_wrap_id z hz (by omega), u64_wrap_id _ h0 hz']
  have hlt : (2 : Int) ^ (7 * k) ≤ 2 ^ 64 := pow_mono7 (by omega)
  exact bits_join_low .u64 64 (by decide) wraps_u64 (7 * k) a _ ha ha' (by omega) h0 (Int.mul_emod_left _ _) hz'

/-- One byte more: 'x |= uint64(b & 0x7f) << 7k', k at most 8. -/
theorem or_and (zs : List Int) (k : Nat) (hk : k ≤ 8) (hz : 0 ≤ zs.getD k 0) (hz' : zs.getD k 0 < 256) :
    bits .or .u64 (acc zs k) (IntKind.u64.wrap (IntKind.u64.wrap (bits .and .u8 (zs.getD k 0) 127) * 2 ^ (7 * k))) = acc zs (k + 1) := by
  have hb := acc_bounds zs k
  have m0 : 0 ≤ zs.getD k 0 % 128 := Int.emod_nonneg _ (by decide)
  have m1 : zs.getD k 0 % 128 < 128 := Int.emod_lt_of_pos _ (by decide)
  have hp := pow_pos7 k
  have l1 : zs.getD k 0 % 128 * 2 ^ (7 * k) ≤ 127 * 2 ^ (7 * k) := Int.mul_le_mul_of_nonneg_right (by omega) (by omega)
  have hlt : (2 : Int) ^ (7 * k) ≤ 2 ^ 56 := pow_mono7 (by omega)
  rw [u8_and127 _ hz hz', or_low _ _ k hb.1 hb.2 (by omega) m0 (by omega)]
  rfl

/-- The last byte, below 128; at the tenth place 0 or 1. -/
theorem or_last (zs : List Int) (k : Nat) (hk : k ≤ 9) (hz : 0 ≤ zs.getD k 0) (hz' : zs.getD k 0 < 128) (h9 : k = 9 → zs.getD k 0 ≤ 1) :
    bits .or .u64 (acc zs k) (IntKind.u64.wrap (IntKind.u64.wrap (zs.getD k 0) * 2 ^ (7 * k))) = acc zs (k + 1) := by
  have hb := acc_bounds zs k
  have hp := pow_pos7 k
  have l : zs.getD k 0 * 2 ^ (7 * k) < 18446744073709551616 := by
    by_cases e : k = 9
    · subst e
      have := h9 rfl
      have l1 : zs.getD 9 0 * 2 ^ (7 * 9) ≤ 1 * 2 ^ (7 * 9) := Int.mul_le_mul_of_nonneg_right (by omega) (by omega)
      omega
    · have hlt : (2 : Int) ^ (7 * k) ≤ 2 ^ 56 := pow_mono7 (by omega)
      have l1 : zs.getD k 0 * 2 ^ (7 * k) ≤ 127 * 2 ^ (7 * k) := Int.mul_le_mul_of_nonneg_right (by omega) (by omega)
      omega
  rw [or_low _ _ k hb.1 hb.2 hk hz l]
  show _ = acc zs k + zs.getD k 0 % 128 * 2 ^ (7 * k)
  rw [Int.emod_eq_of_lt hz hz']

/-- .. and by way of '& 0x7f', as the law types it. -/
theorem or_last_and (zs : List Int) (k : Nat) (hk : k ≤ 9) (hz : 0 ≤ zs.getD k 0) (hz' : zs.getD k 0 < 128) (h9 : k = 9 → zs.getD k 0 ≤ 1) :
    bits .or .u64 (acc zs k) (IntKind.u64.wrap (IntKind.u64.wrap (bits .and .u8 (zs.getD k 0) 127) * 2 ^ (7 * k))) = acc zs (k + 1) := by
  rw [u8_and127 _ hz (by omega), Int.emod_eq_of_lt hz hz']
  exact or_last zs k hk hz hz' h9

/-- The same without the inner wrap. -/
theorem or_last' (zs : List Int) (k : Nat) (hk : k ≤ 9) (hz : 0 ≤ zs.getD k 0) (hz' : zs.getD k 0 < 128) (h9 : k = 9 → zs.getD k 0 ≤ 1) :
    bits .or .u64 (acc zs k) (IntKind.u64.wrap (zs.getD k 0 * 2 ^ (7 * k))) = acc zs (k + 1) := by
  have := or_last zs k hk hz hz' h9
  rw [u64_wrap_id _ hz (by omega)] at this
  exact this

theorem acc_lt64 (zs : List Int) (k : Nat) (hk : k ≤ 9) (hz : 0 ≤ zs.getD k 0) (hz' : zs.getD k 0 < 128) (h9 : k = 9 → zs.getD k 0 ≤ 1) : acc zs (k + 1) < 18446744073709551616 := by
  by_cases e : k = 9
  · subst e
    have hb := acc_bounds zs 9
    have := h9 rfl
    have l1 : zs.getD 9 0 % 128 * 2 ^ (7 * 9) ≤ 1 * 2 ^ (7 * 9) := Int.mul_le_mul_of_nonneg_right (by omega) (by decide)
    show acc zs 9 + zs.getD 9 0 % 128 * 2 ^ (7 * 9) < _
    omega
  · have hb := acc_bounds zs (k + 1)
    have hlt : (2 : Int) ^ (7 * (k + 1)) ≤ 2 ^ 63 := pow_mono7 (by omega)
    omega

/-- varint.Len, as its text reckons it. -/
def lenOf (x : Int) : Int := ((Lib.bitLen (bits .or .u64 x 1).toNat : Nat) + 6) / 7

theorem bitLen_pos (x : Nat) (h : x ≠ 0) (h' : x < 2 ^ 64) : 1 ≤ Lib.bitLen x := by rw [Lib.bitLen_half x h h']; omega

theorem or_one (x : Int) (h : 0 ≤ x) (h' : x < 18446744073709551616) : bits .or .u64 x 1 = ((x.toNat ||| 1 : Nat) : Int) := by
  have := (bits_nat .u64 64 (by decide) wraps_u64 x.toNat 1 (by omega) (by decide)).2
  rw [Int.toNat_of_nonneg h] at this
  exact this

/-- From 2^7k up to 2^(7k+7): k + 1 bytes. -/
theorem lenOf_eq (x : Int) (k : Nat) (hk : k ≤ 9) (h0 : 2 ^ (7 * k) ≤ x) (h1 : x < 2 ^ (7 * (k + 1))) (h2 : x < 18446744073709551616) : lenOf x = k + 1 := by
  have hp := pow_pos7 k
  unfold lenOf
  rw [or_one x (by omega) h2, Int.toNat_natCast]
  obtain ⟨n, rfl⟩ := Int.eq_ofNat_of_zero_le (show 0 ≤ x by omega)
  rw [Int.toNat_natCast]
  have n0 : 2 ^ (7 * k) ≤ n := by exact_mod_cast h0
  have n1 : n < 2 ^ (7 * (k + 1)) := by exact_mod_cast h1
  have n2 : n < 2 ^ 64 := by omega
  have hle : n ≤ n ||| 1 := Nat.left_le_or
  have o64 : n ||| 1 < 2 ^ 64 := Nat.or_lt_two_pow n2 (by decide)
  have o1 : n ||| 1 < 2 ^ (7 * (k + 1)) := Nat.or_lt_two_pow n1 (Nat.lt_of_lt_of_le (by decide : 1 < 2 ^ 7) (Nat.pow_le_pow_right (by decide) (by omega)))
  have up : Lib.bitLen (n ||| 1) ≤ 7 * (k + 1) := Lib.bitLenAux_le 64 _ _ o1
  have lo := Lib.bitLen_shift (7 * k) (n ||| 1) (by omega) o64
  have hq : 1 ≤ (n ||| 1) / 2 ^ (7 * k) := (Nat.le_div_iff_mul_le (Nat.two_pow_pos _)).2 (by omega)
  have := bitLen_pos _ (by omega) (Nat.lt_of_le_of_lt (Nat.div_le_self (n ||| 1) (2 ^ (7 * k))) o64)
  omega

/-- Below 2^7k (k at least 1): at most k bytes. -/
theorem lenOf_le (x : Int) (k : Nat) (hk : 1 ≤ k) (h : 0 ≤ x) (h1 : x < 2 ^ (7 * k)) (h2 : x < 18446744073709551616) : 0 ≤ lenOf x ∧ lenOf x ≤ k := by
  unfold lenOf
  rw [or_one x h h2, Int.toNat_natCast]
  obtain ⟨n, rfl⟩ := Int.eq_ofNat_of_zero_le h
  rw [Int.toNat_natCast]
  have n1 : n < 2 ^ (7 * k) := by exact_mod_cast h1
  have o1 : n ||| 1 < 2 ^ (7 * k) := Nat.or_lt_two_pow n1 (Nat.lt_of_lt_of_le (by decide : 1 < 2 ^ 7) (Nat.pow_le_pow_right (by decide) (by omega)))
  have up : Lib.bitLen (n ||| 1) ≤ 7 * k := Lib.bitLenAux_le 64 _ _ o1
  omega

/-- The last byte is not 0: as many bytes as were read. -/
theorem len_good (zs : List Int) (k : Nat) (hk1 : 1 ≤ k) (hk : k ≤ 9) (hz : 0 < zs.getD k 0) (hz' : zs.getD k 0 < 128) (h9 : k = 9 → zs.getD k 0 ≤ 1) : lenOf (acc zs (k + 1)) = k + 1 := by
  have hb := acc_bounds zs k
  have hb1 := acc_bounds zs (k + 1)
  have hp := pow_pos7 k
  refine lenOf_eq _ k hk ?_ hb1.2 (acc_lt64 zs k hk (by omega) hz' h9)
  show _ ≤ acc zs k + zs.getD k 0 % 128 * 2 ^ (7 * k)
  rw [Int.emod_eq_of_lt (by omega) hz']
  have l1 : 1 * 2 ^ (7 * k) ≤ zs.getD k 0 * 2 ^ (7 * k) := Int.mul_le_mul_of_nonneg_right (by omega) (by omega)
  omega

/-- The last byte is 0: fewer. -/
theorem len_long (zs : List Int) (k : Nat) (hk1 : 1 ≤ k) (hk : k ≤ 9) (hz : zs.getD k 0 = 0) : lenOf (acc zs (k + 1)) ≠ k + 1 := by
  have hb := acc_bounds zs k
  have e : acc zs (k + 1) = acc zs k := by show acc zs k + zs.getD k 0 % 128 * 2 ^ (7 * k) = _; rw [hz]; simp
  have hlt : (2 : Int) ^ (7 * k) ≤ 2 ^ 63 := pow_mono7 (by omega)
  have := lenOf_le (acc zs k) k hk1 hb.1 hb.2 (by omega)
  rw [e]
  omega

theorem acc_one (zs : List Int) (hz : 0 ≤ zs.getD 0 0) (hz' : zs.getD 0 0 < 128) : acc zs 1 = zs.getD 0 0 := by
  show 0 + zs.getD 0 0 % 128 * 2 ^ (7 * 0) = _
  rw [Int.emod_eq_of_lt hz hz']
  simp

end Go.Proofs.YbulkcynwDoor
