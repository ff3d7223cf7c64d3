/-
  bondward.LawS5003AExact (function 3): THE WALK.
-/
import Derived.Test.YbulkcyoyKey
import Derived.Laws.CopyOwn
import Derived.BigQuiet
import Derived.WalkSmall
namespace Go.Proofs.Ybulkcyoy
set_option linter.unusedVariables false
set_option linter.unusedSimpArgs false
open Go.RowKit

set_option maxHeartbeats 400000 in
theorem law_long (n c : Nat) (a : Option Addr) (s : ByteArray) (w : World) (hn : n ≤ maxLen) (hbig : 4096 < n) :
    Calls Yba.prog 3 #[.slice a n c, .string s] w fun e w' => e = .returned (.bool true) ∧ Below w.heap.size w w' := by
  unfold maxLen at hn
  go_enter Yba.func3, Yba.ntmps3
  go_wp2
  go_ret
  exact ⟨rfl, Below.refl _ _⟩

set_option maxHeartbeats 400000 in
theorem law_longkey (n c : Nat) (a : Option Addr) (s : ByteArray) (w : World) (hn : n ≤ 4096) (hs : s.size ≤ maxLen) (hbig : 4096 < s.size) :
    Calls Yba.prog 3 #[.slice a n c, .string s] w fun e w' => e = .returned (.bool true) ∧ Below w.heap.size w w' := by
  unfold maxLen at hs
  have hle : (n : Int) ≤ 4096 := by omega
  go_enter Yba.func3, Yba.ntmps3
  go_wp2
  go_ret
  exact ⟨rfl, Below.refl _ _⟩

/-- A full row that the call owns, as a block. -/
theorem own_full {w : World} {base g n : Nat} {xs : List Value} (h : w.ownsRow base 5 1 (.slice (some ⟨g, 0, none⟩) n n) n xs) : w.heap[g]? = some (.cells xs.toArray 5 (0, 0)) ∧ xs.length = n := by
  obtain ⟨hl, h2⟩ := h
  rcases h2 with ⟨h, _⟩ | ⟨g', cap, cur, hv, _, hh, _, _, hsz, htk⟩
  · cases h
  · simp only [Value.slice.injEq, Option.some.injEq, Addr.mk.injEq, and_true, true_and] at hv
    obtain ⟨rfl, rfl⟩ := hv
    refine ⟨?_, by omega⟩
    rw [hh, ← htk, List.take_of_length_le (by rw [Array.length_toList]; omega)]

/-- A block of numbers, cell by cell. -/
theorem block_cells {w : World} {g : Nat} {bs : List Int} (h : w.heap[g]? = some (.cells ((bs.map (Value.int .u8)).toArray) 5 (0, 0))) (j : Nat) : w.cell? ⟨g, j, none⟩ = (bs.map (Value.int .u8))[j]? := by
  simp [World.cell?, h]

theorem int_at (bs : List Int) (j : Nat) (hj : j < bs.length) : (bs.map (Value.int .u8))[j]? = some (.int .u8 (bs.getD j 0)) := by
  rw [List.getElem?_map, List.getD_eq_getElem?_getD, List.getElem?_eq_getElem hj]; rfl

set_option maxHeartbeats 4000000 in
set_option maxRecDepth 100000 in
theorem law_main (n c : Nat) (a : Option Addr) (bs : List Int) (s : ByteArray) (w : World) (hn : n ≤ 4096) (hs : s.size ≤ 4096) (hl : bs.length = n)
    (hb : 0 < n → ∃ b off, a = some ⟨b, off, none⟩ ∧ b < w.heap.size ∧ ∀ j, j < n → w.cell? ⟨b, off + j, none⟩ = some (.int .u8 (bs.getD j 0))) :
    Calls Yba.prog 3 #[.slice a n c, .string s] w fun e w' => e = .returned (.bool true) ∧ Below w.heap.size w w' := by
  obtain ⟨i0, hi, hz0, hz1, hz2⟩ := info_parts info5
  have hle : (n : Int) ≤ 4096 := by omega
  have hle2 : (s.size : Int) ≤ 4096 := by omega
  have HB : Hid _ := hb
  have HL : Hid _ := hl
  clear hb hl
  go_enter Yba.func3, Yba.ntmps3
  go_wp2_with (at_make; refine wpList_make_full _ rfl (.tmp 21) (.tmp 21) 22 rfl w.heap.size 5 i0 (.int .u8 0) 1 Yba.underlying22 hi hz0 hz1 .i64 .i64 _ _ n rfl rfl rfl rfl (by rw [hz2]; omega) (by unfold maxLen; omega) (Nat.le_refl _) ?_)
  intro w1 hown1 hgrow1
  obtain ⟨hblk, hlen1⟩ := own_full hown1
  have hb1 : Below w.heap.size w w1 := (Below.refl _ _).grown hgrow1 (Nat.le_refl _) (fun k hk => by cases hk)
  have hg1 := (hown1.lt _ rfl).2
  generalize (madeCells #[Value.int .u8 0] n).toList = z1 at hblk hlen1 hown1
  have hcopy : Hid (0 < (bs.map (Value.int .u8)).length → (some ⟨w.heap.size, 0, none⟩ : Option Addr) = some ⟨w.heap.size, 0, none⟩ ∧ ∃ ad, a = some ad ∧ ∀ j v, (bs.map (Value.int .u8))[j]? = some v → w1.cell? (ad.add j) = some v) := by
    intro hp
    rw [List.length_map, HL.out] at hp
    obtain ⟨b, off, rfl, hbw, hc⟩ := HB.out hp
    refine ⟨rfl, _, rfl, fun j v hj => ?_⟩
    have hjn : j < n := by
      have := (List.getElem?_eq_some_iff.1 hj).1
      simpa [HL.out] using this
    rw [int_at bs j (by rw [HL.out]; exact hjn)] at hj
    rw [Addr.add_lit, hb1.cell (p := ⟨b, off + j, none⟩) hbw, hc j hjn]
    exact hj
  clear hgrow1 hown1
  go_wp2_with (refine wpList_copy_splice rfl (.tmp 23) (.tmp 24) 22 22 rfl 5 Yba.underlying22 (by kernel_rfl) (some ⟨w.heap.size, 0, none⟩) a n n n c rfl rfl w.heap.size 0 z1 5 hblk (bs.map (Value.int .u8)) (by rw [List.length_map, HL.out]; exact (Nat.min_self n).symm) hcopy.out (by rw [List.length_map, HL.out]; omega) (ints_oneCell _ _) w.heap.size w hb1 (Nat.le_refl _) ?_)
  intro w2 hblk2 hb2
  have hblk2' : w2.heap[w.heap.size]? = some (.cells ((bs.map (Value.int .u8)).toArray) 5 (0, 0)) := by
    rw [hblk2.out]
    have hd : z1.drop (0 + (bs.map (Value.int .u8)).length) = [] := List.drop_eq_nil_of_le (by rw [List.length_map, HL.out, hlen1]; omega)
    simp only [splice, List.take_zero, List.nil_append, hd, List.append_nil]
  have hg2 : w.heap.size < w2.heap.size := by
    rcases Nat.lt_or_ge w.heap.size w2.heap.size with h | h
    · exact h
    · rw [Array.getElem?_eq_none h] at hblk2'; cases hblk2'
  have HK : Hid _ := key6 w.heap.size n bs s w2 HL.out hn hs hg2 (fun j u hu => by rw [Nat.zero_add, block_cells hblk2' j]; exact hu)
  have HIN : Hid _ := hblk2'
  have HB2 : Hid _ := hb2
  clear hblk hlen1 hblk2 hblk2' hb1 hb2 hcopy hg1
  go_wp2_with fail
  refine Calls.mono HK.out ?_
  rintro e w3 ⟨v', rfl, hown3, hb3⟩
  obtain ⟨go, co, hv⟩ : ∃ go co, v' = .slice (some ⟨go, 0, none⟩) (n + 2 + s.size + 2) co := by
    rcases hown3.2 with ⟨_, h⟩ | ⟨go, co, _, h, _⟩
    · omega
    · exact ⟨go, co, h⟩
  subst hv
  have hgo := (hown3.lt go rfl).2
  have hs3 := hb3.size
  have hout : ∀ j, j < n + 2 + s.size + 2 → w3.cell? ⟨go, j, none⟩ = some (.int .u8 ((line bs s).getD j 0)) := fun j hj => by
    rw [hown3.cellAt j (by omega), int_at _ j (by rw [line_length, HL.out]; omega)]
  have hin : ∀ j, j < n → w3.cell? ⟨w.heap.size, j, none⟩ = some (.int .u8 (bs.getD j 0)) := fun j hj => by
    rw [hb3.cell (p := ⟨w.heap.size, j, none⟩) (by exact hg2), block_cells HIN.out j, int_at bs j (by rw [HL.out]; exact hj)]
  have hb : 0 < n → ∃ b off, a = some ⟨b, off, none⟩ ∧ b < w3.heap.size ∧ ∀ j, j < n → w3.cell? ⟨b, off + j, none⟩ = some (.int .u8 (bs.getD j 0)) := fun h0 => by
    obtain ⟨b, off, e, hbw, hc⟩ := HB.out h0
    refine ⟨b, off, e, by omega, fun j hj => ?_⟩
    rw [hb3.cell (p := ⟨b, off + j, none⟩) (by show b < w2.heap.size; omega), HB2.out.cell (p := ⟨b, off + j, none⟩) hbw]
    exact hc j hj
  have HB3 : Hid (Below w.heap.size w w3) := HB2.out.trans (hb3.mono HB2.out.size)
  have HOUT : Hid _ := hout
  have HIN3 : Hid _ := hin
  have HBC : Hid _ := hb
  clear hown3 hb3 hout hin hb HK HIN HB
  go_wp2_with (at_make; refine wpList_make_own _ rfl _ (.tmp 34) 22 rfl w3.heap.size 5 i0 (.int .u8 0) 1 Yba.underlying22 hi hz0 hz1 .i64 .i64 _ (n + s.size + 4) rfl rfl (by omega) (by rw [hz2]; omega) (by unfold maxLen; omega) (Nat.le_refl _) ?_)
  intro w4 hown4 hgrow4
  have hb4 : Below w3.heap.size w3 w4 := (Below.refl _ _).grown hgrow4 (Nat.le_refl _) (fun k hk => by cases hk)
  clear hgrow4
  go_wp2
  go_loopw [7, 8] (fun v i wr => ∃ k : Nat, k ≤ n ∧ i = .int .i64 k ∧ v = .slice (some ⟨w3.heap.size, 0, none⟩) k (n + s.size + 4) ∧ wr.ownsRow w3.heap.size 5 1 v k ((bs.take k).map (Value.int .u8)) ∧ Below w3.heap.size w3 wr) (fun _ i _ => n + 1 - (intOf i).toNat)
  case atStart => exact ⟨0, by omega, rfl, rfl, by simpa using hown4, hb4⟩
  case round =>
    obtain ⟨k, hk, rfl, rfl, hown, hbel⟩ := hrel
    have hsz := hbel.size
    by_cases hlt : k < n
    · obtain ⟨b, off, rfl, hbw, hcs⟩ := HBC.out (by omega)
      have hc := (hbel.cell (p := ⟨b, off + k, none⟩) hbw).trans (hcs k hlt)
      have hsn : Hid ((bs.take (k + 1)).map (Value.int .u8) = (bs.take k).map (Value.int .u8) ++ [Value.int .u8 (bs.getD k 0)]) := by
        show _ = _
        rw [List.take_succ_eq_append_getElem (by rw [HL.out]; exact hlt), List.map_append, List.getD_eq_getElem?_getD, List.getElem?_eq_getElem (by rw [HL.out]; exact hlt)]
        rfl
      clear hcs
      generalize bs.getD k 0 = z at hc hsn
      generalize (bs.take k).map (Value.int .u8) = xs at hown hsn
      go_wp2_with (at_builtin; refine wpList_append_fits _ rfl (.tmp 42) (.tmp 47) 22 rfl w3.heap.size 5 i0 1 Yba.underlying22 hi hz1 w3.heap.size k (n + s.size + 4) xs rfl (hown.alloc _) ⟨wr.heap.size, 0, none⟩ 1 1 [.int .u8 z] rfl rfl (cell_one_new _ _ _) (by intro u hu; simp at hu; subst hu; rfl) (by omega) ?_)
      intro w5 hown5 hgrow5
      have hb5 : Below w3.heap.size w3 w5 := (hbel.alloc hsz _).grown hgrow5 (by simp; omega) (fun k hk => by injection hk; omega)
      clear hown hgrow5 hc
      go_wp2
      go_roundw
      case rel => exact ⟨k + 1, by omega, by go_num, rfl, by rw [hsn.out]; exact hown5, hb5⟩
      case measure => simp [intOf]; omega
    · have hkn : n = k := by omega
      subst hkn
      have hall : bs.take n = bs := List.take_of_length_le (by rw [HL.out]; omega)
      rw [hall] at hown
      clear hall hb4 hown4
      go_wp2_with (at_builtin; refine wpList_append_fits _ rfl (.tmp 49) (.tmp 50) 22 rfl w3.heap.size 5 i0 1 Yba.underlying22 hi hz1 w3.heap.size n (n + s.size + 4) (bs.map (Value.int .u8)) rfl (hown.alloc _) ⟨wr.heap.size, 0, none⟩ 2 2 [.int .u8 44, .int .u8 34] rfl rfl (two_new _ _ _ _) (two_one _ _) (by omega) ?_)
      intro w5 hown5 hgrow5
      have hb5 : Below w3.heap.size w3 w5 := (hbel.alloc hsz _).grown hgrow5 (by simp; omega) (fun k hk => by injection hk; omega)
      have hown5' : w5.ownsRow w3.heap.size 5 1 (.slice (some ⟨w3.heap.size, 0, none⟩) (n + 2) (n + s.size + 4)) (n + 2) ((bs ++ [44, 34]).map (Value.int .u8)) := by
        rw [List.map_append]; exact hown5
      clear hown hown5 hgrow5 hbel hsz
      go_wp2
      go_loopw [7, 9] (fun v i wr => ∃ k : Nat, k ≤ s.size ∧ i = .int .i64 k ∧ v = .slice (some ⟨w3.heap.size, 0, none⟩) (n + 2 + k) (n + s.size + 4) ∧ wr.ownsRow w3.heap.size 5 1 v (n + 2 + k) ((bs ++ [44, 34] ++ (keyInts s).take k).map (Value.int .u8)) ∧ Below w3.heap.size w3 wr) (fun _ i _ => s.size + 1 - (intOf i).toNat)
      case atStart => exact ⟨0, by omega, rfl, rfl, by simpa using hown5', hb5⟩
      case round =>
        clear hown5' hb5
        obtain ⟨k, hk, rfl, rfl, hown, hbel⟩ := hrel
        have hsz := hbel.size
        by_cases hlt : k < s.size
        · have hsn : Hid ((bs ++ [44, 34] ++ (keyInts s).take (k + 1)).map (Value.int .u8) = (bs ++ [44, 34] ++ (keyInts s).take k).map (Value.int .u8) ++ [Value.int .u8 (s[k].toNat : Int)]) := by
            show _ = _
            rw [List.take_succ_eq_append_getElem (by rw [keyInts_length]; exact hlt), ← List.append_assoc, List.map_append]
            simp [keyInts]
            rfl
          generalize (bs ++ [44, 34] ++ (keyInts s).take k).map (Value.int .u8) = xs at hown hsn
          go_wp2_with (at_builtin; refine wpList_append_fits _ rfl (.tmp 58) (.tmp 62) 22 rfl w3.heap.size 5 i0 1 Yba.underlying22 hi hz1 w3.heap.size (n + 2 + k) (n + s.size + 4) xs rfl (hown.alloc _) ⟨wr.heap.size, 0, none⟩ 1 1 [.int .u8 (s[k].toNat : Int)] rfl rfl (cell_one_new _ _ _) (by intro u hu; simp at hu; subst hu; rfl) (by omega) ?_)
          intro w6 hown6 hgrow6
          have hb6 : Below w3.heap.size w3 w6 := (hbel.alloc hsz _).grown hgrow6 (by simp; omega) (fun k hk => by injection hk; omega)
          clear hown hgrow6
          go_wp2
          go_roundw
          case rel => exact ⟨k + 1, by omega, by go_num, rfl, by rw [hsn.out]; exact hown6, hb6⟩
          case measure => simp [intOf]; omega
        · have hkn : s.size = k := by omega
          subst hkn
          have hall : (keyInts s).take s.size = keyInts s := List.take_of_length_le (by rw [keyInts_length]; omega)
          rw [hall] at hown
          clear hall
          go_wp2_with (at_builtin; refine wpList_append_fits _ rfl (.tmp 64) (.tmp 65) 22 rfl w3.heap.size 5 i0 1 Yba.underlying22 hi hz1 w3.heap.size (n + 2 + s.size) (n + s.size + 4) ((bs ++ [44, 34] ++ keyInts s).map (Value.int .u8)) rfl (hown.alloc _) ⟨wr.heap.size, 0, none⟩ 2 2 [.int .u8 34, .int .u8 58] rfl rfl (two_new _ _ _ _) (two_one _ _) (by omega) ?_)
          intro w6 hown6 hgrow6
          have hb6 : Below w3.heap.size w3 w6 := (hbel.alloc hsz _).grown hgrow6 (by simp; omega) (fun k hk => by injection hk; omega)
          have hwant : ∀ j, j < n + 2 + s.size + 2 → w6.cell? ⟨w3.heap.size, j, none⟩ = some (.int .u8 ((line bs s).getD j 0)) := fun j hj => by
            rw [hown6.cellAt j (by omega)]
            rw [← int_at _ j (by rw [line_length, HL.out]; omega)]
            simp [line]
          have hout : ∀ j, j < n + 2 + s.size + 2 → w6.cell? ⟨go, j, none⟩ = some (.int .u8 ((line bs s).getD j 0)) := fun j hj => (hb6.cell (p := ⟨go, j, none⟩) hgo).trans (HOUT.out j hj)
          have hin : ∀ j, j < n → w6.cell? ⟨w.heap.size, j, none⟩ = some (.int .u8 (bs.getD j 0)) := fun j hj => (hb6.cell (p := ⟨w.heap.size, j, none⟩) (by show w.heap.size < w3.heap.size; omega)).trans (HIN3.out j hj)
          have hb : 0 < n → ∃ b off, a = some ⟨b, off, none⟩ ∧ ∀ j, j < n → w6.cell? ⟨b, off + j, none⟩ = some (.int .u8 (bs.getD j 0)) := fun h0 => by
            obtain ⟨b, off, e, hbw, hc⟩ := HBC.out h0
            exact ⟨b, off, e, fun j hj => (hb6.cell (p := ⟨b, off + j, none⟩) hbw).trans (hc j hj)⟩
          have HF : Hid (Below w.heap.size w w6) := HB3.out.trans (hb6.mono (by omega))
          have HW : Hid _ := hwant
          have HO : Hid _ := hout
          have HI : Hid _ := hin
          have HC : Hid _ := hb
          clear hown hown6 hgrow6 hbel hsz hb6 hwant hout hin hb HBC HIN3 HOUT
          have hN : ((n + 2 + s.size + 2 : Nat) : Int) ≤ 8196 := by omega
          have hNN : ((n + 2 + s.size + 2 : Nat) : Int) = ((n : Int) + 2 + (s.size : Int) + 2) := by omega
          go_wp2
          go_loopw [10] (fun i wr => ∃ k m : Nat, k ≤ n + 2 + s.size + 2 ∧ i = .int .i64 k ∧ wr = w6.drewN m) (fun i _ => n + 2 + s.size + 3 - (intOf i).toNat)
          case atStart => exact ⟨0, 0, by omega, rfl, rfl⟩
          case round =>
            obtain ⟨k, m, hk2, rfl, rfl⟩ := hrel
            by_cases hlt2 : k < n + 2 + s.size + 2
            · have c1 := HO.out k hlt2
              have c2 := HW.out k hlt2
              have hlt3 : (k : Int) < (n : Int) + 2 + (s.size : Int) + 2 := by omega
              have hlt4 : (k : Int) < ((n + 2 + s.size + 2 : Nat) : Int) := by omega
              generalize (line bs s).getD k 0 = z at c1 c2
              have hzz : (z != z) = false := by simp
              go_wp2
              go_quiet (fail)
              go_wp2
              go_roundw
              case rel => exact ⟨k + 1, _, by omega, by go_num, rfl⟩
              case measure => simp [intOf]; omega
            · have hkN : k = n + 2 + s.size + 2 := by omega
              have hge : ¬ ((k : Int) < (n : Int) + 2 + (s.size : Int) + 2) := by omega
              clear hkN
              go_wp2
              go_loopw [11] (fun i wr => ∃ k m : Nat, k ≤ n ∧ i = .int .i64 k ∧ wr = w6.drewN m) (fun i _ => n + 1 - (intOf i).toNat)
              case atStart => exact ⟨0, m, by omega, rfl, rfl⟩
              case round =>
                obtain ⟨j, m', hj2, rfl, rfl⟩ := hrel
                by_cases hjn : j < n
                · obtain ⟨b, off, rfl, hcs⟩ := HC.out (by omega)
                  have c1 := HI.out j hjn
                  have c2 := hcs j hjn
                  clear hcs
                  generalize bs.getD j 0 = z at c1 c2
                  have hzz : (z != z) = false := by simp
                  go_wp2
                  go_quiet (fail)
                  go_wp2
                  go_roundw
                  case rel => exact ⟨j + 1, _, by omega, by go_num, rfl⟩
                  case measure => simp [intOf]; omega
                · obtain rfl : j = n := by omega
                  go_wp2
                  go_ret
                  exact ⟨rfl, below_drewN HF.out _⟩

end Go.Proofs.Ybulkcyoy
