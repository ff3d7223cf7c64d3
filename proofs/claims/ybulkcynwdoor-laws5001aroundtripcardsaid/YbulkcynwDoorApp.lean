/-
  encoding/binary.AppendUvarint (function 8) onto nil, after the kit's shelf text; what 'Lib.uvarint x' is to 'acc' and to Read.
-/
import Derived.Test.YbulkcynwDoorLawA
import Derived.Lib.VarintMem
import Derived.OwnWalk
namespace Go.Proofs.YbulkcynwDoor
set_option linter.unusedVariables false
set_option linter.unusedSimpArgs false
open Go.RowKit

theorem info5 : (Ybad.prog.info? 5).map (fun i => (i.zero, i.size, i.bytes)) = some (some (.int .u8 0), 1, 1) := by kernel_rfl

set_option maxHeartbeats 8000000 in
set_option maxRecDepth 100000 in
theorem app8 (x : Nat) (hx : x < 18446744073709551616) (w : World) :
    Calls Ybad.prog 8 #[.slice none 0 0, .int .u64 x] w fun e w' => ∃ v', e = .returned v' ∧ w'.ownsRow w.heap.size 5 1 v' (Lib.uvarint x).length (Lib.byteCells (Lib.uvarint x)) ∧ Below w.heap.size w w' := by
  obtain ⟨i0, hi, hz0, hz1, hz2⟩ := info_parts info5
  have hlen := Lib.uvarint_length64 hx
  go_enter Ybad.func8, Ybad.ntmps8
  go_wp2
  go_loopw [0, 1] (fun vb vx wr => ∃ (y : Nat) (pre : List UInt8), vx = .int .u64 y ∧ y ≤ x ∧ Lib.uvarint x = pre ++ Lib.uvarint y ∧ wr.ownsRow w.heap.size 5 1 vb pre.length (Lib.byteCells pre) ∧ Below w.heap.size w wr)
    (fun _ vx _ => (intOf vx).toNat)
  case atStart => exact ⟨x, [], rfl, Nat.le_refl _, rfl, World.ownsRow_nil _ _ _ _, Below.refl _ _⟩
  case round =>
    obtain ⟨y, pre, rfl, hy, hsplit, hown1, hnx⟩ := hrel
    have hpl : pre.length + (Lib.uvarint y).length ≤ 10 := by
      have h2 := congrArg List.length hsplit
      rw [List.length_append] at h2
      omega
    have hyp := Lib.uvarint_pos y
    by_cases h128 : 128 ≤ y
    · have hor : bits .or .u8 ((y : Int) % 256) 128 = ((y % 128 + 128 : Nat) : Int) := by
        rw [Lib.u8_or128_any _ (by omega) (by omega)]
        omega
      go_wp2_with (at_builtin; refine wpList_append_own _ rfl _ _ 22 rfl w.heap.size 5 i0 (.int .u8 0) 1 1 Ybad.underlying22 hi hz0 hz1 hz2 rfl (by decide) _ _ _ rfl (hown1.alloc _) ⟨wr.heap.size, 0, none⟩ 1 1 [Value.int .u8 ((y % 128 + 128 : Nat) : Int)] rfl rfl ?c1 ?c2 ?c3 ?c4 ?c5 ?_)
      case c1 =>
        intro j u hj
        match j, hj with
        | 0, hj => simp at hj; subst hj; simp [Addr.add]
      case c2 => intro u hu; simp at hu; subst hu; rfl
      case c3 => unfold maxLen; omega
      case c4 => omega
      case c5 => have := hnx.size; simp; omega
      intro v' w1 hown' hgrow _
      have hnx1 : Below w.heap.size w w1 := (hnx.alloc (by have := hnx.size; omega) _).grown hgrow (by have := hnx.size; simp; omega) (fun k hk => (hown1.lt k hk).1)
      go_wp2
      go_roundw
      case rel =>
        refine ⟨y / 128, pre ++ [(y % 128 + 128).toUInt8], by go_num, by omega, by rw [hsplit, Lib.uvarint_big h128]; simp, ?_, hnx1⟩
        have ec : ((y % 128 + 128 : Nat) : Int) = (y : Int) % 128 + 128 := by omega
        rw [Lib.byteCells_snoc pre (by omega), List.length_append, List.length_singleton, ec]
        exact hown'
      case measure => simp [intOf]; omega
    · have hsm : Lib.uvarint y = [y.toUInt8] := Lib.uvarint_small (by omega)
      go_wp2_with (at_builtin; refine wpList_append_own _ rfl _ _ 22 rfl w.heap.size 5 i0 (.int .u8 0) 1 1 Ybad.underlying22 hi hz0 hz1 hz2 rfl (by decide) _ _ _ rfl (hown1.alloc _) ⟨wr.heap.size, 0, none⟩ 1 1 [Value.int .u8 (y : Int)] rfl rfl ?c1 ?c2 ?c3 ?c4 ?c5 ?_)
      case c1 =>
        intro j u hj
        match j, hj with
        | 0, hj => simp at hj; subst hj; simp [Addr.add]
      case c2 => intro u hu; simp at hu; subst hu; rfl
      case c3 => unfold maxLen; omega
      case c4 => omega
      case c5 => have := hnx.size; simp; omega
      intro v' w1 hown' hgrow _
      have hnx1 : Below w.heap.size w w1 := (hnx.alloc (by have := hnx.size; omega) _).grown hgrow (by have := hnx.size; simp; omega) (fun k hk => (hown1.lt k hk).1)
      go_wp2
      go_ret
      refine ⟨v', rfl, ?_, hnx1⟩
      rw [hsplit, hsm, Lib.byteCells_snoc pre (by omega), List.length_append, List.length_singleton]
      exact hown'

/-! ### The bytes of a varint as numbers -/
def ints (l : List UInt8) : List Int := l.map fun b => (b.toNat : Int)

theorem byteCells_ints (l : List UInt8) : Lib.byteCells l = (ints l).map (Value.int .u8) := by
  simp [Lib.byteCells, ints]

theorem acc_cons (b : Int) (r : List Int) : ∀ k, acc (b :: r) (k + 1) = b % 128 + 128 * acc r k
  | 0 => by simp [acc]
  | k + 1 => by
    have ih := acc_cons b r k
    show acc (b :: r) (k + 1) + (b :: r).getD (k + 1) 0 % 128 * 2 ^ (7 * (k + 1)) = b % 128 + 128 * (acc r k + r.getD k 0 % 128 * 2 ^ (7 * k))
    have e : (b :: r).getD (k + 1) 0 = r.getD k 0 := by simp [List.getD]
    have e2 : r.getD k 0 % 128 * (2 ^ (7 * k) * 128) = 128 * (r.getD k 0 % 128 * 2 ^ (7 * k)) := by
      rw [← Int.mul_assoc, Int.mul_comm]
    rw [ih, e, pow_step, e2, Int.mul_add]
    omega

/-- What is told of the numbers of x's varint, whatever lies behind them. -/
structure Spells (zs : List Int) (m x : Nat) : Prop where
  pos : 1 ≤ m
  val : acc zs m = x
  big : ∀ j, j + 1 < m → 128 ≤ zs.getD j 0
  last : 0 ≤ zs.getD (m - 1) 0 ∧ zs.getD (m - 1) 0 < 128
  short : 2 ≤ m → 0 < zs.getD (m - 1) 0

theorem spells (r : List Int) : ∀ (f x : Nat), x < f → Spells (ints (Lib.uvarint x) ++ r) (Lib.uvarint x).length x
  | 0, x, h => absurd h (Nat.not_lt_zero _)
  | f + 1, x, h => by
    by_cases hx : x < 128
    · have e : ints (Lib.uvarint x) = [(x : Int)] := by
        rw [Lib.uvarint_small hx]
        simp [ints, Lib.toUInt8_toNat (show x < 256 by omega)]
      have el : (Lib.uvarint x).length = 1 := by rw [Lib.uvarint_small hx]; rfl
      rw [e, el]
      refine ⟨by omega, ?_, fun j hj => absurd hj (by omega), ?_, fun h => absurd h (by omega)⟩
      · show (0 : Int) + ((x : Int) :: r).getD 0 0 % 128 * 2 ^ (7 * 0) = x
        simp
        omega
      · show 0 ≤ ((x : Int) :: r).getD 0 0 ∧ ((x : Int) :: r).getD 0 0 < 128
        simp
        omega
    · have ih := spells r f (x / 128) (by omega)
      have e : ints (Lib.uvarint x) ++ r = (((x % 128 + 128 : Nat) : Int)) :: (ints (Lib.uvarint (x / 128)) ++ r) := by
        rw [Lib.uvarint_big (by omega)]
        simp [ints, Lib.toUInt8_toNat (show x % 128 + 128 < 256 by omega)]
        omega
      have el : (Lib.uvarint x).length = (Lib.uvarint (x / 128)).length + 1 := by rw [Lib.uvarint_big (by omega)]; rfl
      rw [e, el]
      generalize ints (Lib.uvarint (x / 128)) ++ r = zs at ih
      have hv := ih.val
      have hsm : (Lib.uvarint (x / 128)).length = 1 → 0 < zs.getD 0 0 := fun h1 => by
        rw [h1] at hv
        have hv' : (0 : Int) + zs.getD 0 0 % 128 * 2 ^ (7 * 0) = (x / 128 : Nat) := hv
        have hl := ih.last
        rw [h1] at hl
        simp at hv' hl ⊢
        omega
      generalize (Lib.uvarint (x / 128)).length = m at ih hv hsm
      obtain ⟨hp, _, hb, hl, hs⟩ := ih
      have g : ∀ j, ((((x % 128 + 128 : Nat) : Int)) :: zs).getD (j + 1) 0 = zs.getD j 0 := fun j => by simp [List.getD]
      have em : m + 1 - 1 = (m - 1) + 1 := by omega
      refine ⟨by omega, ?_, fun j hj => ?_, ?_, fun _ => ?_⟩
      · rw [acc_cons, hv]; omega
      · cases j with
        | zero => simp; omega
        | succ j => rw [g]; exact hb j (by omega)
      · rw [em, g]; exact hl
      · rw [em, g]
        by_cases h2 : 2 ≤ m
        · exact hs h2
        · have h1 : m = 1 := by omega
          have := hsm h1
          rw [h1]; exact this

/-- What Read answers at x's varint with whatever behind it. -/
theorem rdOut_spells {zs : List Int} {m x n : Nat} {E G1 G2 G3 : Value} {eof : Bool} {v : Int} {err : Value} {kk : Nat} (hs : Spells zs m x) (hm : m ≤ 10) (hmn : m ≤ n) (hx : x < 18446744073709551616) (hbyte : ∀ j, 0 ≤ zs.getD j 0)
    (h : RdOut zs n E G1 G2 G3 eof v err kk) : v = x ∧ err = .nilIface ∧ kk = m := by
  obtain ⟨hp, hv, hb, hl, hsh⟩ := hs
  rcases h with ⟨_, hall, _⟩ | ⟨h10, hall, _⟩ | ⟨t, htn, ht10, hall, hlast, huv, rfl⟩
  · have := hall (m - 1) (by omega); omega
  · have := hall (m - 1) (by omega); omega
  · have ht : t = m - 1 := by
      rcases Nat.lt_trichotomy t (m - 1) with h | h | h
      · have := hb t (by omega); omega
      · exact h
      · have := hall (m - 1) h; omega
    have em : t + 1 = m := by omega
    rcases huv with ⟨h1, h0, _⟩ | ⟨h9, h1, _⟩ | ⟨_, _, rfl, rfl⟩
    · have := hsh (by omega); rw [← ht, h0] at this; omega
    · -- a tenth byte above 1 would spell more than 64 bits hold
      exfalso
      have ha := acc_bounds zs 9
      have e10 : m = 9 + 1 := by omega
      rw [e10] at hv
      have hv' : acc zs 9 + zs.getD 9 0 % 128 * 2 ^ (7 * 9) = x := hv
      rw [h9] at h1 hlast
      rw [Int.emod_eq_of_lt (by omega) hlast] at hv'
      have l1 : 2 * 2 ^ (7 * 9) ≤ zs.getD 9 0 * 2 ^ (7 * 9) := Int.mul_le_mul_of_nonneg_right (by omega) (by decide)
      omega
    · rw [em]; exact ⟨hv, rfl, rfl⟩

end Go.Proofs.YbulkcynwDoor
