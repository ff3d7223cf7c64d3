/-
  bondward.appendKey (function 6) onto a full row of bytes: THE WALK: the result lies in new memory; nothing that was there has turned.
-/
import Derived.Test.YbulkcyoyProg
import Derived.WalkKit
import Derived.WalkSpells
import Derived.ArgAppend
import Derived.Lib.AppendStr
import Derived.OwnWalk
namespace Go.Proofs.Ybulkcyoy
set_option linter.unusedVariables false
set_option linter.unusedSimpArgs false
open Go.RowKit

theorem info5 : (Yba.prog.info? 5).map (fun i => (i.zero, i.size, i.bytes)) = some (some (.int .u8 0), 1, 1) := by kernel_rfl

/-- A string's bytes as numbers. -/
def keyInts (s : ByteArray) : List Int := s.data.toList.map fun b => (b.toNat : Int)
theorem keyInts_length (s : ByteArray) : (keyInts s).length = s.size := by
  rw [keyInts, List.length_map, Array.length_toList]; rfl
theorem strCells_ints (s : ByteArray) : Lib.strCells s = (keyInts s).map (Value.int .u8) := by
  simp [Lib.strCells, keyInts]

/-- b , " key " : -/
def line (zs : List Int) (s : ByteArray) : List Int := zs ++ [44, 34] ++ keyInts s ++ [34, 58]
theorem line_length (zs : List Int) (s : ByteArray) : (line zs s).length = zs.length + s.size + 4 := by
  simp [line, keyInts_length]; omega

theorem two_new (w : World) (x y : Value) (t : TypeId) : ∀ j u, [x, y][j]? = some u → (w.alloc (.cells #[x, y] t)).cell? ((⟨w.heap.size, 0, none⟩ : Addr).add j) = some u := by
  intro j u hj
  match j, hj with
  | 0, hj => simp at hj; subst hj; simp [Addr.add]
  | 1, hj => simp at hj; subst hj; simp [Addr.add]

theorem two_one (x y : Int) : ∀ u ∈ [Value.int .u8 x, Value.int .u8 y], u.oneCell' = true := by
  intro u hu
  simp at hu
  rcases hu with rfl | rfl <;> rfl

set_option maxHeartbeats 2000000 in
theorem key6 (g n : Nat) (zs : List Int) (s : ByteArray) (w : World) (hl : zs.length = n) (hn : n ≤ 4096) (hs : s.size ≤ 4096) (hg : g < w.heap.size)
    (hcell : ∀ j u, (zs.map (Value.int .u8))[j]? = some u → w.cell? ⟨g, 0 + j, none⟩ = some u) :
    Calls Yba.prog 6 #[.slice (some ⟨g, 0, none⟩) n n, .string s] w fun e w' => ∃ v', e = .returned v' ∧ w'.ownsRow (w.heap.size + 1) 5 1 v' (n + 2 + s.size + 2) ((line zs s).map (Value.int .u8)) ∧ Below w.heap.size w w' := by
  obtain ⟨i0, hi, hz0, hz1, hz2⟩ := info_parts info5
  have HO : Hid (∀ b : Addr, some (⟨g, 0, none⟩ : Addr) = some b → ∀ j u, (zs.map (Value.int .u8))[j]? = some u → (w.alloc (.cells #[.int .u8 44, .int .u8 34] 5)).cell? (b.add j) = some u) := fun b hb j u hu => by
    obtain rfl := Option.some.inj hb
    rw [Addr.add_lit, World.cell?_alloc_lt _ _ _ (by exact hg)]
    exact hcell j u hu
  have HL : Hid ((line zs s).map (Value.int .u8) = (zs.map (Value.int .u8) ++ [Value.int .u8 44, Value.int .u8 34]) ++ Lib.strCells s ++ [Value.int .u8 34, Value.int .u8 58]) := by
    show _ = _
    rw [strCells_ints]
    simp [line]
  clear hcell
  go_enter Yba.func6, Yba.ntmps6
  go_wp2_with (at_builtin; refine wpList_append_grows _ rfl (.tmp 5) (.tmp 6) 22 rfl 5 i0 (.int .u8 0) 1 1 Yba.underlying22 hi hz0 hz1 hz2 rfl (by decide) (some ⟨g, 0, none⟩) n n (zs.map (Value.int .u8)) rfl (by intro h; cases h) (by simpa using hl) HO.out ⟨w.heap.size, 0, none⟩ 2 2 [.int .u8 44, .int .u8 34] rfl rfl (two_new _ _ _ _) (two_one _ _) (by omega) (by unfold maxLen; omega) (by omega) ?_)
  intro v1 w1 hown1 hgrow1
  have hb1 : Below w.heap.size w w1 := (Below.alloc (Below.refl _ _) (Nat.le_refl _) _).grown hgrow1 (by simp) (fun k hk => by cases hk)
  have hs1 := hgrow1.size
  rw [World.size_alloc] at hs1
  generalize hx1 : zs.map (Value.int .u8) ++ [Value.int .u8 44, Value.int .u8 34] = X1 at hown1 HL
  have HX : Hid _ := hx1
  clear hx1 HO hgrow1
  go_wp2_with (at_builtin; refine Lib.wpList_append_own_string _ rfl (.tmp 8) (.tmp 9) 22 9 rfl (w.heap.size + 1) 5 i0 Yba.underlying22 Yba.underlying9 hi hz0 hz1 hz2 v1 (n + 2) X1 rfl hown1 s rfl (by unfold maxLen; omega) (by omega) hs1 ?_)
  intro v2 w2 hown2 hgrow2 _
  have hb2 : Below w.heap.size w w2 := hb1.grown hgrow2 (by omega) (fun k hk => by have := (hown1.lt k hk).1; omega)
  have hs2 := hgrow2.size
  generalize hx2 : X1 ++ Lib.strCells s = X2 at hown2 HL
  have HX2 : Hid _ := hx2
  clear hx2 hgrow2 hown1
  go_wp2_with (at_builtin; refine wpList_append_own _ rfl (.tmp 11) (.tmp 12) 22 rfl (w.heap.size + 1) 5 i0 (.int .u8 0) 1 1 Yba.underlying22 hi hz0 hz1 hz2 rfl (by decide) v2 (n + 2 + s.size) X2 rfl (hown2.alloc _) ⟨w2.heap.size, 0, none⟩ 2 2 [.int .u8 34, .int .u8 58] rfl rfl (two_new _ _ _ _) (two_one _ _) (by unfold maxLen; omega) (by omega) (by simp; omega) ?_)
  intro v3 w3 hown3 hgrow3 _
  have hb3 : Below w.heap.size w w3 := (hb2.alloc (by omega) _).grown hgrow3 (by simp; omega) (fun k hk => by have := (hown2.lt k hk).1; omega)
  go_wp2
  go_ret
  exact ⟨v3, rfl, by rw [HL.out]; exact hown3, hb3⟩

end Go.Proofs.Ybulkcyoy
