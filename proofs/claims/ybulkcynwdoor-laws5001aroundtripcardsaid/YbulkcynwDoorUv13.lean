/-
  encoding/binary.Uvarint (function 13) at the slices that varint.Read hands on: at most ten bytes, all but the last from 128 up, the last below 128. And varint.Len (14).
-/
import Derived.Test.YbulkcynwDoorPlain
import Derived.Test.YbulkcynwDoorLen
import Derived.WalkKit
import Derived.WalkSpells
namespace Go.Proofs.YbulkcynwDoor
set_option linter.unusedVariables false
set_option linter.unusedSimpArgs false
open Go.RowKit

set_option maxHeartbeats 400000 in
/-- binary.Uvarint, no overflow: what the bytes spell, and how many. -/
theorem uv13_good (g o n c : Nat) (zs : List Int) (w : World) (hn1 : 1 ≤ n) (hn : n ≤ 10)
    (hcell : ∀ j, j < n → w.cell? ⟨g, o + j, none⟩ = some (.int .u8 (zs.getD j 0))) (hbyte : ∀ j, 0 ≤ zs.getD j 0 ∧ zs.getD j 0 < 256)
    (hbig : ∀ j, j + 1 < n → 128 ≤ zs.getD j 0) (hlast : zs.getD (n - 1) 0 < 128) (h9 : n = 10 → zs.getD (n - 1) 0 ≤ 1) :
    Calls Ybad.prog 13 #[.slice (some ⟨g, o, none⟩) n c] w fun e w' => e = .returned (.tuple #[.int .u64 (acc zs n), .int .i64 n]) ∧ w' = w := by
  go_enter Ybad.func13, Ybad.ntmps13
  go_wp2
  go_loop [4, 5, 10] (fun vx vs vi => ∃ k : Nat, vi = .int .i64 k ∧ vs = .int .u64 ((7 * k : Nat) : Int) ∧ vx = .int .u64 (acc zs k) ∧ k < n) (fun _ _ vi => n - (intOf vi).toNat)
  case atStart => exact ⟨0, rfl, rfl, rfl, by omega⟩
  case round =>
    obtain ⟨k, rfl, rfl, rfl, hkn⟩ := hrel
    have hc := hcell k hkn
    have hb := hbyte k
    have hk10 : ((k : Int) == 10) = false := by simp; omega
    by_cases hl : k + 1 < n
    · have hz2 := hbig k hl
      have hor : Hid _ := or_and zs k (by omega) hb.1 hb.2
      clear hcell hbyte hbig hlast h9
      generalize zs.getD k 0 = z at hc hz2 hb hor
      generalize acc zs k = a at hor
      go_wp2
      go_round
      case rel => exact ⟨k + 1, by go_num, by go_num, congrArg _ hor.out, hl⟩
      case measure => simp [intOf]; omega
    · obtain rfl : n = k + 1 := by omega
      have hz2 : zs.getD k 0 < 128 := hlast
      have h9' : k = 9 → zs.getD k 0 ≤ 1 := fun e => h9 (by omega)
      have hor : Hid _ := or_last' zs k (by omega) hb.1 hz2 h9'
      clear hcell hbyte hbig hlast h9
      generalize zs.getD k 0 = z at hc hz2 hb hor h9'
      generalize acc zs k = a at hor
      by_cases hk9 : k = 9
      · have hz1 : z ≤ 1 := h9' hk9
        have hk9' : ((k : Int) == 9) = true := by simp; omega
        clear h9' hk9
        go_wp2
        go_ret2
        exact ⟨by rw [← hor.out]; rfl, rfl⟩
      · have hk9' : ((k : Int) == 9) = false := by simp; omega
        clear h9'
        go_wp2
        go_ret2
        exact ⟨by rw [← hor.out]; rfl, rfl⟩

set_option maxHeartbeats 400000 in
/-- binary.Uvarint, a tenth byte above 1: overflow. -/
theorem uv13_large (g o c : Nat) (zs : List Int) (w : World)
    (hcell : ∀ j, j < 10 → w.cell? ⟨g, o + j, none⟩ = some (.int .u8 (zs.getD j 0))) (hbyte : ∀ j, 0 ≤ zs.getD j 0 ∧ zs.getD j 0 < 256)
    (hbig : ∀ j, j < 9 → 128 ≤ zs.getD j 0) (hlast : zs.getD 9 0 < 128) (h9 : 1 < zs.getD 9 0) :
    Calls Ybad.prog 13 #[.slice (some ⟨g, o, none⟩) 10 c] w fun e w' => e = .returned (.tuple #[.int .u64 0, .int .i64 (-10)]) ∧ w' = w := by
  go_enter Ybad.func13, Ybad.ntmps13
  go_wp2
  go_loop [4, 5, 10] (fun vx vs vi => ∃ k : Nat, ∃ a : Int, vi = .int .i64 k ∧ vs = .int .u64 ((7 * k : Nat) : Int) ∧ vx = .int .u64 a ∧ k < 10) (fun _ _ vi => 10 - (intOf vi).toNat)
  case atStart => exact ⟨0, 0, rfl, rfl, rfl, by omega⟩
  case round =>
    obtain ⟨k, a, rfl, rfl, rfl, hkn⟩ := hrel
    have hc := hcell k hkn
    have hb := hbyte k
    have hk10 : ((k : Int) == 10) = false := by simp; omega
    by_cases hl : k < 9
    · have hz2 := hbig k hl
      clear hcell hbyte hbig hlast h9
      generalize zs.getD k 0 = z at hc hz2 hb
      go_wp2
      go_round
      case rel => exact ⟨k + 1, _, by go_num, by go_num, rfl, by omega⟩
      case measure => simp [intOf]; omega
    · obtain rfl : k = 9 := by omega
      clear hcell hbyte hbig
      generalize zs.getD 9 0 = z at hc hb hlast h9
      go_wp2
      go_ret2
      exact ⟨rfl, rfl⟩

set_option maxHeartbeats 400000 in
/-- varint.Len. -/
theorem len14 (x : Int) (w : World) (h0 : 0 ≤ x) (h1 : x < 18446744073709551616) :
    Calls Ybad.prog 14 #[.int .u64 x] w fun e w' => e = .returned (.int .i64 (lenOf x)) ∧ w' = w := by
  have hb := bits_lo_u64 .or x 1
  have hb' := bits_hi_u64 .or x 1
  have hle : Lib.bitLen (bits .or .u64 x 1).toNat ≤ 64 := Lib.bitLenAux_le 64 _ 64 (by omega)
  unfold lenOf
  go_enter Ybad.func14, Ybad.ntmps14
  go_wp2_with (go_at_call 16; refine (len64 _ _ hb hb').mono ?_; rintro e w' ⟨rfl, rfl⟩)
  go_ret
  exact ⟨rfl, rfl⟩
end Go.Proofs.YbulkcynwDoor
