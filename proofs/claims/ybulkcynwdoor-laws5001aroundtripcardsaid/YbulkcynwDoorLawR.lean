/-
  varint.LawS5001ARoundTrip (function 4): THE WALK.
-/
import Derived.Test.YbulkcynwDoorApp
namespace Go.Proofs.YbulkcynwDoor
set_option linter.unusedVariables false
set_option linter.unusedSimpArgs false
open Go.RowKit

set_option maxHeartbeats 400000 in
theorem lawR_long (X n c : Nat) (da : Option Addr) (w : World) (hn : n ≤ maxLen) (hbig : 1024 < n) :
    Calls Ybad.prog 4 #[.int .u64 X, .slice da n c] w fun e w' => e = .returned (.bool true) ∧ Below w.heap.size w w' := by
  unfold maxLen at hn
  go_enter Ybad.func4, Ybad.ntmps4
  go_wp2
  go_ret
  exact ⟨rfl, Below.refl _ _⟩

theorem ints_bytes (l : List UInt8) (j : Nat) : 0 ≤ (ints l).getD j 0 ∧ (ints l).getD j 0 < 256 := by
  rw [List.getD_eq_getElem?_getD]
  unfold ints
  rw [List.getElem?_map]
  cases l[j]? with
  | none => simp
  | some b => have := b.toNat_lt; simp; omega

theorem append_bytes {es ts : List Int} (he : ∀ j, 0 ≤ es.getD j 0 ∧ es.getD j 0 < 256) (ht : ∀ j, 0 ≤ ts.getD j 0 ∧ ts.getD j 0 < 256) (n j : Nat) : 0 ≤ (es ++ ts.take n).getD j 0 ∧ (es ++ ts.take n).getD j 0 < 256 := by
  have he' := he j
  have ht' := ht (j - es.length)
  rw [List.getD_eq_getElem?_getD] at he' ht' ⊢
  rw [List.getElem?_append]
  split
  · exact he'
  · rw [List.getElem?_take]
    split
    · exact ht'
    · simp

/-- The cells of a row that the call owns, as numbers. -/
theorem row_cells {w : World} {base g n cap : Nat} {zs : List Int} (h : w.ownsRow base 5 1 (.slice (some ⟨g, 0, none⟩) n cap) n (zs.map (Value.int .u8))) (j : Nat) (hj : j < n) : w.cell? ⟨g, 0 + j, none⟩ = some (.int .u8 (zs.getD j 0)) := by
  rw [Nat.zero_add, h.cellAt j (by omega), List.getElem?_map, List.getD_eq_getElem?_getD]
  have hl := h.1
  simp at hl
  rw [List.getElem?_eq_getElem (by omega)]
  rfl

set_option maxHeartbeats 4000000 in
set_option maxRecDepth 100000 in
theorem lawR (X n c : Nat) (hX : X < 18446744073709551616) (da : Option Addr) (ts : List Int) (a0 a1 a2 a3 : Addr) (w : World) (hsm : n ≤ 1024) (hw : 5 < w.heap.size)
    (hnil : da = none → n = 0 ∧ c = 0)
    (hda : ∀ ad, da = some ad → ∀ j u, ((ts.take n).map (Value.int .u8))[j]? = some u → w.cell? (ad.add j) = some u ∧ ad.block < w.heap.size) (hts : n ≤ ts.length)
    (hbyte : ∀ j, 0 ≤ ts.getD j 0 ∧ ts.getD j 0 < 256)
    (hg0 : w.cell? ⟨0, 0, none⟩ = some (.iface 40 (.pointer (some a0)))) (hg1 : w.cell? ⟨1, 0, none⟩ = some (.iface 40 (.pointer (some a1))))
    (hg2 : w.cell? ⟨2, 0, none⟩ = some (.iface 40 (.pointer (some a2)))) (hg3 : w.cell? ⟨3, 0, none⟩ = some (.iface 40 (.pointer (some a3)))) :
    Calls Ybad.prog 4 #[.int .u64 X, .slice da n c] w fun e w' => e = .returned (.bool true) ∧ Below w.heap.size w w' := by
  obtain ⟨i0, hi, hz0, hz1, hz2⟩ := info_parts info5
  have hle : (n : Int) ≤ 1024 := by omega
  have HW : Hid _ := And.intro hg0 (And.intro hg1 (And.intro hg2 hg3))
  have HDA : Hid _ := hda
  have HNIL : Hid _ := hnil
  clear hg0 hg1 hg2 hg3 hda hnil
  go_enter Ybad.func4, Ybad.ntmps4
  go_wp2_with fail
  refine (app8 X hX w).mono ?_
  rintro e w1 ⟨v', rfl, hown1, hb1⟩
  have hm1 := Lib.uvarint_pos X
  have hm10 := Lib.uvarint_length64 hX
  have hsp : Hid _ := spells (ts.take n) (X + 1) X (by omega)
  have hcells := byteCells_ints (Lib.uvarint X)
  have hlenI : (ints (Lib.uvarint X)).length = (Lib.uvarint X).length := by simp [ints]
  have hib := ints_bytes (Lib.uvarint X)
  rw [hcells] at hown1
  clear hcells
  generalize ints (Lib.uvarint X) = es at hown1 hsp hlenI hib
  generalize (Lib.uvarint X).length = m at hown1 hm1 hm10 hsp hlenI
  have hlenI' : Hid _ := hlenI
  clear hlenI
  obtain ⟨g, cap, hv⟩ : ∃ g cap, v' = .slice (some ⟨g, 0, none⟩) m cap := by
    rcases hown1.2 with ⟨_, h⟩ | ⟨g, cap, _, h, _⟩
    · omega
    · exact ⟨g, cap, h⟩
  subst hv
  have hg := hown1.lt g rfl
  have hmn : Hid _ := hlenI'
  have hs1 := hb1.size
  go_wp2_with (first | (at_make; refine wpList_make_own _ rfl _ _ 22 rfl w.heap.size 5 i0 (.int .u8 0) 1 Ybad.underlying22 hi hz0 hz1 .i64 .i64 _ (m + n) rfl rfl (by omega) (by rw [hz2]; omega) (by unfold maxLen; omega) hs1 ?_) | (at_builtin; fail))
  intro w2 hown2 hgrow2
  have hb2 : Below w.heap.size w w2 := hb1.grown hgrow2 hs1 (fun k hk => by cases hk)
  have hown1' : w2.ownsRow w.heap.size 5 1 (.slice (some ⟨g, 0, none⟩) m cap) m (es.map (Value.int .u8)) := hown1.kept hgrow2 (Or.inr (by intro h; cases h))
  have hnews1 : ∀ ad, (some ⟨g, 0, none⟩ : Option Addr) = some ad → ∀ j u, (es.map (Value.int .u8))[j]? = some u → w2.cell? (ad.add j) = some u := by
    intro ad had
    obtain rfl := Option.some.inj had
    exact hown1'.cells rfl
  have hs2 := hgrow2.size
  have h21 : w1.heap.size < w2.heap.size := (hown2.lt _ rfl).2
  have HB2 : Hid _ := hb2
  have HN1 : Hid _ := hnews1
  clear hown1 hown1' hb1 hb2 hnews1 hgrow2
  go_wp2_with (at_builtin; refine wpList_append_fits_any _ rfl (.tmp 21) (.tmp 22) 22 rfl w.heap.size 5 i0 1 Ybad.underlying22 hi hz1 w1.heap.size 0 (m + n) [] rfl hown2 (some ⟨g, 0, none⟩) m cap (es.map (Value.int .u8)) rfl (by simpa using hlenI'.out) (by intro h; cases h) HN1.out (ints_oneCell _ _) (by omega) ?_)
  intro w3 hown3 hgrow3
  have hb3 : Below w.heap.size w w3 := HB2.out.grown hgrow3 HB2.out.size (fun k hk => by injection hk; omega)
  have hnews2 : ∀ ad, da = some ad → ∀ j u, ((ts.take n).map (Value.int .u8))[j]? = some u → w3.cell? (ad.add j) = some u := fun ad had j u hu => by
    have := HDA.out ad had j u hu
    rw [hb3.cell (p := ad.add j) (by rw [show (ad.add j).block = ad.block from by unfold Addr.add; split <;> rfl]; exact this.2)]
    exact this.1
  have hs3 := hgrow3.size
  have HB3 : Hid _ := hb3
  have HN2 : Hid _ := hnews2
  clear hown2 hgrow3 hb3 hnews2
  go_wp2_with (at_builtin; refine wpList_append_fits_any _ rfl (.tmp 24) (.tmp 25) 22 rfl w.heap.size 5 i0 1 Ybad.underlying22 hi hz1 w1.heap.size m (m + n) (es.map (Value.int .u8)) rfl hown3 da n c ((ts.take n).map (Value.int .u8)) rfl (by simp; omega) HNIL.out HN2.out (ints_oneCell _ _) (Nat.le_refl _) ?_)
  intro w4 hown4 hgrow4
  rw [← List.map_take, ← List.map_append] at hown4
  have hb4 : Below w.heap.size w w4 := HB3.out.grown hgrow4 HB3.out.size (fun k hk => by injection hk; omega)
  have hs4 := hgrow4.size
  have old : ∀ a : Addr, a.block < w.heap.size → w4.cell? a = w.cell? a := fun a ha => hb4.cell (p := a) ha
  have g0 := (old ⟨0, 0, none⟩ (by show 0 < w.heap.size; omega)).trans HW.out.1
  have g1 := (old ⟨1, 0, none⟩ (by show 1 < w.heap.size; omega)).trans HW.out.2.1
  have g2 := (old ⟨2, 0, none⟩ (by show 2 < w.heap.size; omega)).trans HW.out.2.2.1
  have g3 := (old ⟨3, 0, none⟩ (by show 3 < w.heap.size; omega)).trans HW.out.2.2.2
  have hbytes : ∀ j, 0 ≤ (es ++ ts.take n).getD j 0 ∧ (es ++ ts.take n).getD j 0 < 256 := append_bytes hib hbyte n
  have HR : Hid _ := read_law (m + n) (m + n) (some ⟨w1.heap.size, 0, none⟩) (es ++ ts.take n) a0 a0 a1 a2 a3 true w4 (by unfold maxLen; omega) (by omega)
    (fun j hj => ⟨w1.heap.size, 0, rfl, by omega, fun i hi => row_cells hown4 i hi⟩) hbytes g0 g1 g2 g3 (fun wr _ => eq_same a0 wr)
  have HB4 : Hid _ := hb4
  have HBY : Hid _ := hbytes
  clear hown3 hown4 hgrow4 hb4 old g1 g2 g3 hbytes hib hbyte
  go_wp2_with fail
  refine Calls.mono HR.out ?_
  rintro e w' ⟨v, err, kk, rfl, ⟨hold, hplace, hbel⟩, hout⟩
  obtain ⟨rfl, rfl, rfl⟩ := rdOut_spells hsp.out hm10 (by omega) hX (fun j => (HBY.out j).1) hout
  have HF : Hid (Below w.heap.size w w') := HB4.out.trans (hbel.mono HB4.out.size)
  clear hold hbel hout HR
  go_wp2
  go_ret
  exact ⟨by simp, HF.out⟩

end Go.Proofs.YbulkcynwDoor
