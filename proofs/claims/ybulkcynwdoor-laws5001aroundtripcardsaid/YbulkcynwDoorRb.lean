/-
  (*zzs5001areader).ReadByte (function 43): the two ways; (*varint.Reader).Uvarint (11): its cases in one; small laws on worlds.
-/
import Derived.Test.YbulkcynwDoorUv11
namespace Go.Proofs.YbulkcynwDoor
set_option linter.unusedVariables false
set_option linter.unusedSimpArgs false
open Go.RowKit

set_option maxHeartbeats 400000 in
/-- A byte is left: it is handed out, and the place moves on. -/
theorem rb_more (R b off n c k : Nat) (z : Int) (w : World) (hk : k < n) (hn : (n : Int) ≤ 9223372036854775807)
    (h0 : w.cell? ⟨R, 0, none⟩ = some (.slice (some ⟨b, off, none⟩) n c)) (h1 : w.cell? ⟨R, 1, none⟩ = some (.int .i64 k)) (hf : w.frozen? ⟨R, 1, none⟩ = false)
    (hz : w.cell? ⟨b, off + k, none⟩ = some (.int .u8 z)) :
    Calls Ybad.prog 43 #[.pointer (some ⟨R, 0, none⟩)] w fun e w' => e = .returned (.tuple #[.int .u8 z, .nilIface]) ∧ ∃ m, w' = (w.setCell ⟨R, 1, none⟩ (.int .i64 ((k + 1 : Nat) : Int))).drewN m := by
  have hk' : (k : Int) < (n : Int) := by omega
  go_enter Ybad.func43, Ybad.ntmps43
  go_wp2
  go_quiet (fail)
  go_wp2
  go_quiet (fail)
  go_wp2
  go_ret2
  exact ⟨rfl, _, rfl⟩

set_option maxHeartbeats 400000 in
/-- None is left: 0 and the reader's own end. -/
theorem rb_end (R n c k : Nat) (da : Option Addr) (u : TypeId) (x : Value) (w : World) (hk : n ≤ k)
    (h0 : w.cell? ⟨R, 0, none⟩ = some (.slice da n c)) (h1 : w.cell? ⟨R, 1, none⟩ = some (.int .i64 k)) (h2 : w.cell? ⟨R, 2, none⟩ = some (.iface u x)) :
    Calls Ybad.prog 43 #[.pointer (some ⟨R, 0, none⟩)] w fun e w' => e = .returned (.tuple #[.int .u8 0, .iface u x]) ∧ ∃ m, w' = w.drewN m := by
  have hk' : (n : Int) ≤ (k : Int) := by omega
  go_enter Ybad.func43, Ybad.ntmps43
  go_wp2
  go_quiet (fail)
  go_wp2
  go_quiet (fail)
  go_wp2
  go_ret2
  exact ⟨rfl, _, World.drewN_drewN _ _ _⟩

/-- What Uvarint answers at t + 1 bytes, all but the last from 128 up, the last below 128. -/
def UvOut (zs : List Int) (t : Nat) (G1 G3 : Value) (v : Int) (err : Value) : Prop :=
  (1 ≤ t ∧ zs.getD t 0 = 0 ∧ v = 0 ∧ err = G3) ∨ (t = 9 ∧ 1 < zs.getD t 0 ∧ v = 0 ∧ err = G1) ∨
  (¬ (1 ≤ t ∧ zs.getD t 0 = 0) ∧ ¬ (t = 9 ∧ 1 < zs.getD t 0) ∧ v = acc zs (t + 1) ∧ err = .nilIface)

theorem uv11_any (I B t c : Nat) (zs : List Int) (a1 a3 : Addr) (w : World) (ht : t < 10)
    (h0 : w.cell? ⟨I, 0, none⟩ = some (.slice (some ⟨B, 0, none⟩) (t + 1) c)) (h1 : w.cell? ⟨I, 1, none⟩ = some (.int .i64 0)) (hf : w.frozen? ⟨I, 1, none⟩ = false)
    (hcell : ∀ j, j < t + 1 → w.cell? ⟨B, j, none⟩ = some (.int .u8 (zs.getD j 0))) (hb : ∀ j, 0 ≤ zs.getD j 0 ∧ zs.getD j 0 < 256) (hbig : ∀ j, j < t → 128 ≤ zs.getD j 0)
    (hlast : zs.getD t 0 < 128) (hne : B ≠ I)
    (hg1 : w.cell? ⟨1, 0, none⟩ = some (.iface 40 (.pointer (some a1)))) (hg3 : w.cell? ⟨3, 0, none⟩ = some (.iface 40 (.pointer (some a3)))) :
    Calls Ybad.prog 11 #[.pointer (some ⟨I, 0, none⟩)] w fun e w' => ∃ v err, e = .returned (.tuple #[.int .u64 v, err]) ∧ Below I w w' ∧ UvOut zs t (.iface 40 (.pointer (some a1))) (.iface 40 (.pointer (some a3))) v err := by
  have hbt := hb t
  by_cases hlong : 1 ≤ t ∧ zs.getD t 0 = 0
  · refine (uv11_long I B (t + 1) c zs a3 w (by omega) (by omega) h0 h1 hcell hb (fun j hj => hbig j (by omega)) hlong.2 hg3).mono ?_
    rintro e w' ⟨he, hw⟩
    exact ⟨_, _, he, hw, Or.inl ⟨hlong.1, hlong.2, rfl, rfl⟩⟩
  by_cases hlarge : t = 9 ∧ 1 < zs.getD t 0
  · obtain ⟨rfl, h2⟩ := hlarge
    refine (uv11_large I B c zs a1 w h0 h1 hcell hb hbig hlast h2 hg1).mono ?_
    rintro e w' ⟨he, hw⟩
    exact ⟨_, _, he, hw, Or.inr (Or.inl ⟨rfl, h2, rfl, rfl⟩)⟩
  have fin : ∀ (e : Ending) (w' : World), (e = .returned (.tuple #[.int .u64 (acc zs (t + 1)), .nilIface]) ∧ Below I w w') →
      ∃ v err, e = .returned (.tuple #[.int .u64 v, err]) ∧ Below I w w' ∧ UvOut zs t (.iface 40 (.pointer (some a1))) (.iface 40 (.pointer (some a3))) v err :=
    fun e w' ⟨he, hw⟩ => ⟨_, _, he, hw, Or.inr (Or.inr ⟨hlong, hlarge, rfl, rfl⟩)⟩
  by_cases ht0 : t = 0
  · subst ht0
    exact (uv11_one I B c zs w h0 h1 hf (hcell 0 (by omega)) hbt.1 hlast hne).mono fin
  by_cases ht1 : t = 1
  · subst ht1
    exact (uv11_two I B c zs w h0 h1 hf hcell hb (hbig 0 (by omega)) hlast (by omega) hne).mono fin
  · exact (uv11_good I B (t + 1) c zs w (by omega) (by omega) h0 h1 hf hcell hb (fun j hj => hbig j (by omega)) hlast (by show 0 < zs.getD t 0; omega) (fun e => by show zs.getD t 0 ≤ 1; omega)).mono fin

/-! ### Worlds -/
def storeIn (a : Addr) (u : Value) : Obj → Obj
  | .cells c elem frozen => .cells (if a.spot.isSome then c else c.setIfInBounds a.off u) elem frozen
  | o => o
theorem heap_setCell_any (w : World) (a : Addr) (u : Value) (k : Nat) : (w.setCell a u).heap[k]? = if a.block = k then (w.heap[k]?).map (storeIn a u) else w.heap[k]? := by
  simp only [World.setCell, Array.getElem?_modify]
  split
  · cases w.heap[k]? with
    | none => rfl
    | some o => cases o <;> rfl
  · rfl
theorem storeIn_twice (a : Addr) (u v : Value) (o : Obj) : storeIn a v (storeIn a u o) = storeIn a v o := by
  cases o <;> simp [storeIn]
  split <;> simp

/-- The same store in both worlds; what that cell held before in the first does not count. -/
theorem below_restore {B : Nat} {w w' : World} {a : Addr} {u : Value} (h : Below B (w.setCell a u) w') (v : Value) : Below B (w.setCell a v) (w'.setCell a v) := by
  refine ⟨h.os, h.tape, h.output, ?_, fun k hk => ?_⟩
  · have := h.size; simpa using this
  · have hb := h.block k hk
    rw [heap_setCell_any] at hb
    rw [heap_setCell_any, heap_setCell_any, hb]
    by_cases e : a.block = k
    · simp only [if_pos e]
      cases w.heap[k]? with
      | none => rfl
      | some o => simp [storeIn_twice]
    · simp only [if_neg e]

end Go.Proofs.YbulkcynwDoor
