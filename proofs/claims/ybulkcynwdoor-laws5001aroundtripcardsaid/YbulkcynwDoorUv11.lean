/-
  (*varint.Reader).Uvarint (function 11) at the readers that varint.Read makes: the offset 0, at most ten bytes, all but the last from 128 up, the last below 128.
-/
import Derived.Test.YbulkcynwDoorUv13
import Derived.BigQuiet
import Derived.WalkSmall
namespace Go.Proofs.YbulkcynwDoor
set_option linter.unusedVariables false
set_option linter.unusedSimpArgs false
open Go.RowKit

theorem below_ds (I o m : Nat) (v : Value) (w : World) : Below I w ((w.drewN m).setCell ⟨I, o, none⟩ v) :=
  Below.setCell (p := ⟨I, o, none⟩) (below_drewN (Below.refl I w) m) (Nat.le_refl I) v
theorem below_dsd (I o m m' : Nat) (v : Value) (w : World) : Below I w (((w.drewN m).setCell ⟨I, o, none⟩ v).drewN m') := below_drewN (below_ds I o m v w) m'

set_option maxHeartbeats 400000 in
/-- One byte. -/
theorem uv11_one (I B c : Nat) (zs : List Int) (w : World)
    (h0 : w.cell? ⟨I, 0, none⟩ = some (.slice (some ⟨B, 0, none⟩) 1 c)) (h1 : w.cell? ⟨I, 1, none⟩ = some (.int .i64 0)) (hf : w.frozen? ⟨I, 1, none⟩ = false)
    (hcell : w.cell? ⟨B, 0, none⟩ = some (.int .u8 (zs.getD 0 0))) (hb : 0 ≤ zs.getD 0 0) (hlast : zs.getD 0 0 < 128) (hne : B ≠ I) :
    Calls Ybad.prog 11 #[.pointer (some ⟨I, 0, none⟩)] w fun e w' => e = .returned (.tuple #[.int .u64 (acc zs 1), .nilIface]) ∧ Below I w w' := by
  have hor : Hid _ := acc_one zs hb hlast
  generalize zs.getD 0 0 = z at hcell hb hlast hor
  have hcell' : (w.setCell ⟨I, 1, none⟩ (.int .i64 1)).cell? ⟨B, 0, none⟩ = some (.int .u8 z) :=
    (World.cell?_setCell_other w _ _ _ (by intro h; injection h; omega)).trans hcell
  go_enter Ybad.func11, Ybad.ntmps11
  go_wp2
  go_quiet (fail)
  go_wp2
  go_ret2
  exact ⟨by rw [hor.out]; rfl, below_ds _ _ _ _ _⟩

theorem acc_two (zs : List Int) (h0 : 0 ≤ zs.getD 0 0) (h0' : zs.getD 0 0 < 256) (h1 : 0 ≤ zs.getD 1 0) (h1' : zs.getD 1 0 < 128) :
    bits .or .u64 (IntKind.u64.wrap (bits .and .u8 (zs.getD 0 0) 127)) (zs.getD 1 0 * 128) = acc zs 2 := by
  have a1 : acc zs 1 = zs.getD 0 0 % 128 := by show 0 + zs.getD 0 0 % 128 * 2 ^ (7 * 0) = _; simp
  have := or_last' zs 1 (by omega) h1 h1' (by omega)
  have e : zs.getD 1 0 * 2 ^ (7 * 1) = zs.getD 1 0 * 128 := rfl
  rw [a1, e, u64_wrap_id _ (by omega) (by omega)] at this
  rw [u8_and127 _ h0 h0', u64_wrap_id _ (by omega) (by omega)]
  exact this

set_option maxHeartbeats 400000 in
/-- Two bytes, the second not 0. -/
theorem uv11_two (I B c : Nat) (zs : List Int) (w : World)
    (h0 : w.cell? ⟨I, 0, none⟩ = some (.slice (some ⟨B, 0, none⟩) 2 c)) (h1 : w.cell? ⟨I, 1, none⟩ = some (.int .i64 0)) (hf : w.frozen? ⟨I, 1, none⟩ = false)
    (hcell : ∀ j, j < 2 → w.cell? ⟨B, j, none⟩ = some (.int .u8 (zs.getD j 0))) (hb : ∀ j, 0 ≤ zs.getD j 0 ∧ zs.getD j 0 < 256) (hbig : 128 ≤ zs.getD 0 0) (hlast : zs.getD 1 0 < 128) (hpos : 0 < zs.getD 1 0) (hne : B ≠ I) :
    Calls Ybad.prog 11 #[.pointer (some ⟨I, 0, none⟩)] w fun e w' => e = .returned (.tuple #[.int .u64 (acc zs 2), .nilIface]) ∧ Below I w w' := by
  have hor : Hid _ := acc_two zs (hb 0).1 (hb 0).2 (hb 1).1 hlast
  have c0 := hcell 0 (by omega)
  have c1 := hcell 1 (by omega)
  clear hcell hb
  generalize zs.getD 0 0 = z0 at c0 hbig hor
  generalize zs.getD 1 0 = z1 at c1 hlast hpos hor
  have c0' : (w.setCell ⟨I, 1, none⟩ (.int .i64 2)).cell? ⟨B, 0, none⟩ = some (.int .u8 z0) :=
    (World.cell?_setCell_other w _ _ _ (by intro h; injection h; omega)).trans c0
  have c1' : (w.setCell ⟨I, 1, none⟩ (.int .i64 2)).cell? ⟨B, 1, none⟩ = some (.int .u8 z1) :=
    (World.cell?_setCell_other w _ _ _ (by intro h; injection h; omega)).trans c1
  have hz1 : (z1 == 0) = false := by simp; omega
  have hz2 : (z1 != 0) = true := by simp; omega
  go_enter Ybad.func11, Ybad.ntmps11
  go_wp2
  go_quiet (fail)
  go_wp2
  go_quiet (fail)
  go_wp2
  go_ret2
  refine ⟨?_, below_dsd _ _ _ _ _ _⟩
  rw [← hor.out]; rfl


set_option maxHeartbeats 1000000 in
/-- Two bytes or more by way of binary.Uvarint: a tenth byte above 1. -/
theorem uv11_large (I B c : Nat) (zs : List Int) (a1 : Addr) (w : World)
    (h0 : w.cell? ⟨I, 0, none⟩ = some (.slice (some ⟨B, 0, none⟩) 10 c)) (h1 : w.cell? ⟨I, 1, none⟩ = some (.int .i64 0))
    (hcell : ∀ j, j < 10 → w.cell? ⟨B, j, none⟩ = some (.int .u8 (zs.getD j 0))) (hb : ∀ j, 0 ≤ zs.getD j 0 ∧ zs.getD j 0 < 256) (hbig : ∀ j, j < 9 → 128 ≤ zs.getD j 0) (hlast : zs.getD 9 0 < 128) (hpos : 1 < zs.getD 9 0)
    (hg : w.cell? ⟨1, 0, none⟩ = some (.iface 40 (.pointer (some a1)))) :
    Calls Ybad.prog 11 #[.pointer (some ⟨I, 0, none⟩)] w fun e w' => e = .returned (.tuple #[.int .u64 0, .iface 40 (.pointer (some a1))]) ∧ Below I w w' := by
  have hcall := fun nq : Nat => uv13_large B 0 c zs (w.drewN nq) (fun j hj => by simpa using hcell j hj) hb hbig hlast hpos
  have c0 := hcell 0 (by omega)
  have c1 := hcell 1 (by omega)
  have b0 := hbig 0 (by omega)
  have b1 := hbig 1 (by omega)
  clear hcell hb hbig hlast hpos
  generalize zs.getD 0 0 = z0 at c0 b0
  generalize zs.getD 1 0 = z1 at c1 b1
  have H : Hid _ := hcall
  clear hcall
  go_enter Ybad.func11, Ybad.ntmps11
  go_wp2
  go_quiet (fail)
  go_wp2_with fail
  refine (H.out _).mono ?_
  rintro e w' ⟨rfl, rfl⟩
  go_wp2
  go_quiet (fail)
  go_wp2
  go_ret2
  exact ⟨rfl, below_drewN (below_drewN (Below.refl _ _) _) _⟩

set_option maxHeartbeats 1000000 in
/-- Three bytes or more, the last not 0 (a tenth at most 1). -/
theorem uv11_good (I B m c : Nat) (zs : List Int) (w : World) (hm : 3 ≤ m) (hm' : m ≤ 10)
    (h0 : w.cell? ⟨I, 0, none⟩ = some (.slice (some ⟨B, 0, none⟩) m c)) (h1 : w.cell? ⟨I, 1, none⟩ = some (.int .i64 0)) (hf : w.frozen? ⟨I, 1, none⟩ = false)
    (hcell : ∀ j, j < m → w.cell? ⟨B, j, none⟩ = some (.int .u8 (zs.getD j 0))) (hb : ∀ j, 0 ≤ zs.getD j 0 ∧ zs.getD j 0 < 256) (hbig : ∀ j, j + 1 < m → 128 ≤ zs.getD j 0)
    (hlast : zs.getD (m - 1) 0 < 128) (hpos : 0 < zs.getD (m - 1) 0) (h9 : m = 10 → zs.getD (m - 1) 0 ≤ 1) :
    Calls Ybad.prog 11 #[.pointer (some ⟨I, 0, none⟩)] w fun e w' => e = .returned (.tuple #[.int .u64 (acc zs m), .nilIface]) ∧ Below I w w' := by
  have hcall := fun nq : Nat => uv13_good B 0 m c zs (w.drewN nq) (by omega) hm' (fun j hj => by simpa using hcell j hj) hb hbig hlast h9
  have hlt := acc_lt64 zs (m - 1) (by omega) (by omega) hlast (fun e => h9 (by omega))
  have hlen := len_good zs (m - 1) (by omega) (by omega) hpos hlast (fun e => h9 (by omega))
  rw [show m - 1 + 1 = m by omega] at hlt hlen
  rw [show ((m - 1 : Nat) : Int) + 1 = m by omega] at hlen
  have hlo := (acc_bounds zs m).1
  have c0 := hcell 0 (by omega)
  have c1 := hcell 1 (by omega)
  have b0 := hbig 0 (by omega)
  have b1 := hbig 1 (by omega)
  clear hcell hb hbig hlast hpos h9
  generalize zs.getD 0 0 = z0 at c0 b0
  generalize zs.getD 1 0 = z1 at c1 b1
  generalize acc zs m = x at hcall hlen hlt hlo
  have H : Hid _ := hcall
  have HL : Hid _ := fun nq : Nat => len14 x (w.drewN nq) hlo hlt
  rw [hlen] at HL
  clear hcall hlen
  have hm0 : ((m : Int) == 0) = false := by simp; omega
  have hmm : ((m : Int) != (m : Int)) = false := by simp
  go_enter Ybad.func11, Ybad.ntmps11
  go_wp2
  go_quiet (fail)
  go_wp2_with fail
  refine (H.out _).mono ?_
  rintro e w' ⟨rfl, rfl⟩
  go_wp2_with fail
  refine (HL.out _).mono ?_
  rintro e w' ⟨rfl, rfl⟩
  go_wp2
  go_ret2
  exact ⟨rfl, below_ds _ _ _ _ _⟩

set_option maxHeartbeats 1000000 in
/-- Two bytes or more, the last 0. -/
theorem uv11_long (I B m c : Nat) (zs : List Int) (a3 : Addr) (w : World) (hm : 2 ≤ m) (hm' : m ≤ 10)
    (h0 : w.cell? ⟨I, 0, none⟩ = some (.slice (some ⟨B, 0, none⟩) m c)) (h1 : w.cell? ⟨I, 1, none⟩ = some (.int .i64 0))
    (hcell : ∀ j, j < m → w.cell? ⟨B, j, none⟩ = some (.int .u8 (zs.getD j 0))) (hb : ∀ j, 0 ≤ zs.getD j 0 ∧ zs.getD j 0 < 256) (hbig : ∀ j, j + 1 < m → 128 ≤ zs.getD j 0)
    (hlast : zs.getD (m - 1) 0 = 0)
    (hg : w.cell? ⟨3, 0, none⟩ = some (.iface 40 (.pointer (some a3)))) :
    Calls Ybad.prog 11 #[.pointer (some ⟨I, 0, none⟩)] w fun e w' => e = .returned (.tuple #[.int .u64 0, .iface 40 (.pointer (some a3))]) ∧ Below I w w' := by
  have hcall := fun nq : Nat => uv13_good B 0 m c zs (w.drewN nq) (by omega) hm' (fun j hj => by simpa using hcell j hj) hb hbig (by omega) (by omega)
  have hlt := acc_lt64 zs (m - 1) (by omega) (by omega) (by omega) (by omega)
  have hlen := len_long zs (m - 1) (by omega) (by omega) hlast
  rw [show m - 1 + 1 = m by omega] at hlt hlen
  rw [show ((m - 1 : Nat) : Int) + 1 = m by omega] at hlen
  have hlo := (acc_bounds zs m).1
  have c0 := hcell 0 (by omega)
  have c1 := hcell 1 (by omega)
  have b0 := hbig 0 (by omega)
  have b1 : (128 ≤ zs.getD 1 0 ∧ 3 ≤ m) ∨ (zs.getD 1 0 = 0 ∧ m = 2) := by
    by_cases e : m = 2
    · subst e; exact Or.inr ⟨hlast, rfl⟩
    · exact Or.inl ⟨hbig 1 (by omega), by omega⟩
  clear hcell hb hbig hlast
  generalize zs.getD 0 0 = z0 at c0 b0
  generalize zs.getD 1 0 = z1 at c1 b1
  generalize acc zs m = x at hcall hlen hlt hlo
  have H : Hid _ := hcall
  have HL : Hid _ := fun nq : Nat => len14 x (w.drewN nq) hlo hlt
  generalize lenOf x = L at HL hlen
  clear hcall
  have hm0 : ((m : Int) == 0) = false := by simp; omega
  have hmm : ((m : Int) != L) = true := by simp; exact fun h => hlen h.symm
  clear hlen
  rcases b1 with ⟨b1, hm3⟩ | ⟨rfl, rfl⟩
  · go_enter Ybad.func11, Ybad.ntmps11
    go_wp2
    go_quiet (fail)
    go_wp2_with fail
    refine (H.out _).mono ?_
    rintro e w' ⟨rfl, rfl⟩
    go_wp2_with fail
    refine (HL.out _).mono ?_
    rintro e w' ⟨rfl, rfl⟩
    go_wp2
    go_quiet (fail)
    go_wp2
    go_ret2
    exact ⟨rfl, below_drewN (below_drewN (Below.refl _ _) _) _⟩
  · go_enter Ybad.func11, Ybad.ntmps11
    go_wp2
    go_quiet (fail)
    go_wp2_with fail
    refine (H.out _).mono ?_
    rintro e w' ⟨rfl, rfl⟩
    go_wp2_with fail
    refine (HL.out _).mono ?_
    rintro e w' ⟨rfl, rfl⟩
    go_wp2
    go_quiet (fail)
    go_wp2
    go_ret2
    exact ⟨rfl, below_drewN (below_drewN (Below.refl _ _) _) _⟩

end Go.Proofs.YbulkcynwDoor
