/-
  varint.LawS5001AModel (function 3): THE WALK, fail = false.
-/
import Derived.Test.YbulkcynwDoorLawA
namespace Go.Proofs.YbulkcynwDoor
set_option linter.unusedVariables false
set_option linter.unusedSimpArgs false
open Go.RowKit

set_option maxHeartbeats 4000000 in
set_option maxRecDepth 100000 in
theorem lawA0 (n c : Nat) (da : Option Addr) (zs : List Int) (a0 a1 a2 a3 : Addr) (w : World) (hn : n ≤ maxLen) (hw : 5 < w.heap.size)
    (hda : ∀ j, j < n → ∃ b off, da = some ⟨b, off, none⟩ ∧ b < w.heap.size ∧ ∀ j, j < n → w.cell? ⟨b, off + j, none⟩ = some (.int .u8 (zs.getD j 0)))
    (hbyte : ∀ j, 0 ≤ zs.getD j 0 ∧ zs.getD j 0 < 256)
    (hg0 : w.cell? ⟨0, 0, none⟩ = some (.iface 40 (.pointer (some a0)))) (hg1 : w.cell? ⟨1, 0, none⟩ = some (.iface 40 (.pointer (some a1))))
    (hg2 : w.cell? ⟨2, 0, none⟩ = some (.iface 40 (.pointer (some a2)))) (hg3 : w.cell? ⟨3, 0, none⟩ = some (.iface 40 (.pointer (some a3)))) :
    Calls Ybad.prog 3 #[.slice da n c, .bool false] w fun e w' => e = .returned (.bool true) ∧ Below w.heap.size w w' := by
  have HDA : Hid _ := hda
  have HB : Hid _ := hbyte
  have HG : Hid _ := And.intro hg0 (And.intro hg1 (And.intro hg2 hg3))
  clear hda hbyte hg0 hg1 hg2 hg3
  go_enter Ybad.func3, Ybad.ntmps3
  go_wp2_with fail
  refine (new6 _ w).mono ?_
  rintro e w1 ⟨rfl, hw1⟩
  have old : ∀ a : Addr, a.block < w.heap.size → w1.cell? a = w.cell? a := fun a ha => by rw [hw1]; exact World.cell?_alloc_lt _ _ _ ha
  have hs1 : w1.heap.size = w.heap.size + 1 := by rw [hw1]; simp
  have hb1 : Below w.heap.size w w1 := by rw [hw1]; exact Below.alloc (Below.refl _ _) (Nat.le_refl _) _
  have HW1 : Hid _ := hw1
  have HB1 : Hid _ := hb1
  clear hw1 hb1
  have g0 := (old ⟨0, 0, none⟩ (by show 0 < w.heap.size; omega)).trans HG.out.1
  have g1 := (old ⟨1, 0, none⟩ (by show 1 < w.heap.size; omega)).trans HG.out.2.1
  have g2 := (old ⟨2, 0, none⟩ (by show 2 < w.heap.size; omega)).trans HG.out.2.2.1
  have g3 := (old ⟨3, 0, none⟩ (by show 3 < w.heap.size; omega)).trans HG.out.2.2.2
  have hda1 : ∀ j, j < n → ∃ b off, da = some ⟨b, off, none⟩ ∧ b < w1.heap.size ∧ ∀ j, j < n → w1.cell? ⟨b, off + j, none⟩ = some (.int .u8 (zs.getD j 0)) := fun j hj => by
    obtain ⟨b, off, e, hb, hc⟩ := HDA.out j hj
    exact ⟨b, off, e, by omega, fun i hi => (old _ hb).trans (hc i hi)⟩
  have HR : Hid _ := read_law n c da zs a0 a0 a1 a2 a3 true w1 hn (by omega) hda1 HB.out g0 g1 g2 g3 (fun wr _ => eq_same a0 wr)
  have HD1 : Hid _ := hda1
  have HG1 : Hid _ := And.intro g1 (And.intro g2 g3)
  have h5 : 5 < w1.heap.size := by omega
  clear old hs1 g1 g2 g3 hda1
  go_wp2_with fail
  refine Calls.mono HR.out ?_
  rintro e w' ⟨v, err, kk, rfl, ⟨hold, hplace, hbel⟩, hout⟩
  unfold maxLen at hn
  have f1 := (hold ⟨1, 0, none⟩ (by show 1 < w1.heap.size; omega)).trans HG1.out.1
  have f2 := (hold ⟨2, 0, none⟩ (by show 2 < w1.heap.size; omega)).trans HG1.out.2.1
  have f3 := (hold ⟨3, 0, none⟩ (by show 3 < w1.heap.size; omega)).trans HG1.out.2.2
  have HD2 : Hid (∀ j, j < n → ∃ b off, da = some ⟨b, off, none⟩ ∧ ∀ j, j < n → w'.cell? ⟨b, off + j, none⟩ = some (.int .u8 (zs.getD j 0))) := fun j hj => by
    obtain ⟨b, off, e, hb, hc⟩ := HD1.out j hj
    exact ⟨b, off, e, fun i hi => (hold _ hb).trans (hc i hi)⟩
  have HBE : Hid (Below w.heap.size w w') := HB1.out.trans (hbel.mono HB1.out.size)
  have hsame := fun (a : Addr) => eq_same a w'
  clear hold hbel HR g0
  rcases hout with ⟨hn10, hall, rfl, rfl, rfl⟩ | ⟨hn10, hall, rfl, rfl, hkk⟩ | ⟨t, htn, ht10, hall, hlast, huv, hkk⟩
  · have HALL : Hid _ := hall
    clear hall
    by_cases hgt : 10 < n
    · go_wp2
      go_loop [11, 12] (fun tv jv => ∃ k : Nat, k ≤ 10 ∧ jv = .int .i64 k ∧ tv = .int .i64 (-1)) (fun _ jv => 10 + 1 - (intOf jv).toNat)
      case atStart => exact ⟨0, by omega, rfl, rfl⟩
      case round =>
        obtain ⟨k, hk, rfl, rfl⟩ := hrel
        by_cases hlt : k < 10
        · have hz := HALL.out k hlt
          obtain ⟨b, off, rfl, hcs⟩ := HD2.out k (by omega)
          have hc := hcs k (by omega)
          clear hcs
          generalize zs.getD k 0 = z at hz hc
          go_wp2
          go_round
          case rel => exact ⟨k + 1, by omega, by go_num, rfl⟩
          case measure => simp [intOf]; omega
        · obtain rfl : k = 10 := by omega
          go_wp2
          go_ret
          exact ⟨rfl, HBE.out⟩
    · obtain rfl : n = 10 := by omega
      go_wp2
      go_loop [11, 12] (fun tv jv => ∃ k : Nat, k ≤ 10 ∧ jv = .int .i64 k ∧ tv = .int .i64 (-1)) (fun _ jv => 10 + 1 - (intOf jv).toNat)
      case atStart => exact ⟨0, by omega, rfl, rfl⟩
      case round =>
        obtain ⟨k, hk, rfl, rfl⟩ := hrel
        by_cases hlt : k < 10
        · have hz := HALL.out k hlt
          obtain ⟨b, off, rfl, hcs⟩ := HD2.out k (by omega)
          have hc := hcs k (by omega)
          clear hcs
          generalize zs.getD k 0 = z at hz hc
          go_wp2
          go_round
          case rel => exact ⟨k + 1, by omega, by go_num, rfl⟩
          case measure => simp [intOf]; omega
        · obtain rfl : k = 10 := by omega
          go_wp2
          go_ret
          exact ⟨rfl, HBE.out⟩
  · have HALL : Hid _ := hall
    clear hall
    have hkk' := hkk.symm
    subst hkk'
    have hne10 : ((n : Int) == 10) = false := by simp; omega
    by_cases hn0 : 0 < n
    · have hn0' : (0 : Int) < (n : Int) := by omega
      rw [if_pos ⟨rfl, hn0⟩]
      go_wp2
      go_loop [11, 12] (fun tv jv => ∃ k : Nat, k ≤ n ∧ jv = .int .i64 k ∧ tv = .int .i64 (-1)) (fun _ jv => n + 1 - (intOf jv).toNat)
      case atStart => exact ⟨0, by omega, rfl, rfl⟩
      case round =>
        obtain ⟨k, hk, rfl, rfl⟩ := hrel
        by_cases hlt : k < n
        · have hz := HALL.out k hlt
          obtain ⟨b, off, rfl, hcs⟩ := HD2.out k (by omega)
          have hc := hcs k (by omega)
          clear hcs
          generalize zs.getD k 0 = z at hz hc
          go_wp2
          go_round
          case rel => exact ⟨k + 1, by omega, by go_num, rfl⟩
          case measure => simp [intOf]; omega
        · have hkN : n = k := by omega
          subst hkN
          go_wp2
          go_ret
          exact ⟨by simp, HBE.out⟩
    · obtain rfl : n = 0 := by omega
      rw [if_neg (by simp)]
      go_wp2
      go_loop [11, 12] (fun tv jv => ∃ k : Nat, k ≤ 0 ∧ jv = .int .i64 k ∧ tv = .int .i64 (-1)) (fun _ jv => 0 + 1 - (intOf jv).toNat)
      case atStart => exact ⟨0, by omega, rfl, rfl⟩
      case round =>
        obtain ⟨k, hk, rfl, rfl⟩ := hrel
        by_cases hlt : k < 0
        · exact absurd hlt (Nat.not_lt_zero _)
        · obtain rfl : k = 0 := by omega
          go_wp2
          go_ret
          exact ⟨by simp, HBE.out⟩
  · have HALL : Hid _ := hall
    clear hall
    subst hkk
    rcases huv with ⟨ht1, hz0, rfl, rfl⟩ | ⟨rfl, hz0, rfl, rfl⟩ | ⟨hno1, hno2, hv, rfl⟩
    · skip
      by_cases hgt : 10 < n
      · go_wp2
        go_loop [11, 12] (fun tv jv => ∃ k : Nat, k ≤ t ∧ jv = .int .i64 k ∧ tv = .int .i64 (-1)) (fun _ jv => t + 1 - (intOf jv).toNat)
        case atStart => exact ⟨0, by omega, rfl, rfl⟩
        case round =>
          obtain ⟨k, hk, rfl, rfl⟩ := hrel
          by_cases hlt : k < t
          · have hz := HALL.out k hlt
            obtain ⟨b, off, rfl, hcs⟩ := HD2.out k (by omega)
            have hc := hcs k (by omega)
            clear hcs
            generalize zs.getD k 0 = z at hz hc
            go_wp2
            go_round
            case rel => exact ⟨k + 1, by omega, by go_num, rfl⟩
            case measure => simp [intOf]; omega
          · have hkN : t = k := by omega
            subst hkN
            obtain ⟨b, off, rfl, hcs⟩ := HD2.out t htn
            have hc := hcs t htn
            have HCS : Hid _ := hcs
            clear hcs
            generalize hzt : zs.getD t 0 = z at hlast hz0 hc
            have HZ : Hid _ := hzt
            clear hzt
            subst hz0
            go_wp2
            go_ret
            exact ⟨rfl, HBE.out⟩
      · go_wp2
        go_loop [11, 12] (fun tv jv => ∃ k : Nat, k ≤ t ∧ jv = .int .i64 k ∧ tv = .int .i64 (-1)) (fun _ jv => t + 1 - (intOf jv).toNat)
        case atStart => exact ⟨0, by omega, rfl, rfl⟩
        case round =>
          obtain ⟨k, hk, rfl, rfl⟩ := hrel
          by_cases hlt : k < t
          · have hz := HALL.out k hlt
            obtain ⟨b, off, rfl, hcs⟩ := HD2.out k (by omega)
            have hc := hcs k (by omega)
            clear hcs
            generalize zs.getD k 0 = z at hz hc
            go_wp2
            go_round
            case rel => exact ⟨k + 1, by omega, by go_num, rfl⟩
            case measure => simp [intOf]; omega
          · have hkN : t = k := by omega
            subst hkN
            obtain ⟨b, off, rfl, hcs⟩ := HD2.out t htn
            have hc := hcs t htn
            have HCS : Hid _ := hcs
            clear hcs
            generalize hzt : zs.getD t 0 = z at hlast hz0 hc
            have HZ : Hid _ := hzt
            clear hzt
            subst hz0
            go_wp2
            go_ret
            exact ⟨rfl, HBE.out⟩
    · skip
      by_cases hgt : 10 < n
      · go_wp2
        go_loop [11, 12] (fun tv jv => ∃ k : Nat, k ≤ 9 ∧ jv = .int .i64 k ∧ tv = .int .i64 (-1)) (fun _ jv => 9 + 1 - (intOf jv).toNat)
        case atStart => exact ⟨0, by omega, rfl, rfl⟩
        case round =>
          obtain ⟨k, hk, rfl, rfl⟩ := hrel
          by_cases hlt : k < 9
          · have hz := HALL.out k hlt
            obtain ⟨b, off, rfl, hcs⟩ := HD2.out k (by omega)
            have hc := hcs k (by omega)
            clear hcs
            generalize zs.getD k 0 = z at hz hc
            go_wp2
            go_round
            case rel => exact ⟨k + 1, by omega, by go_num, rfl⟩
            case measure => simp [intOf]; omega
          · obtain rfl : k = 9 := by omega
            obtain ⟨b, off, rfl, hcs⟩ := HD2.out 9 htn
            have hc := hcs 9 htn
            have HCS : Hid _ := hcs
            clear hcs
            generalize hzt : zs.getD 9 0 = z at hlast hz0 hc
            have HZ : Hid _ := hzt
            clear hzt
            have hz00 : (z == 0) = false := by simp; omega
            go_wp2
            go_ret
            exact ⟨rfl, HBE.out⟩
      · go_wp2
        go_loop [11, 12] (fun tv jv => ∃ k : Nat, k ≤ 9 ∧ jv = .int .i64 k ∧ tv = .int .i64 (-1)) (fun _ jv => 9 + 1 - (intOf jv).toNat)
        case atStart => exact ⟨0, by omega, rfl, rfl⟩
        case round =>
          obtain ⟨k, hk, rfl, rfl⟩ := hrel
          by_cases hlt : k < 9
          · have hz := HALL.out k hlt
            obtain ⟨b, off, rfl, hcs⟩ := HD2.out k (by omega)
            have hc := hcs k (by omega)
            clear hcs
            generalize zs.getD k 0 = z at hz hc
            go_wp2
            go_round
            case rel => exact ⟨k + 1, by omega, by go_num, rfl⟩
            case measure => simp [intOf]; omega
          · obtain rfl : k = 9 := by omega
            obtain ⟨b, off, rfl, hcs⟩ := HD2.out 9 htn
            have hc := hcs 9 htn
            have HCS : Hid _ := hcs
            clear hcs
            generalize hzt : zs.getD 9 0 = z at hlast hz0 hc
            have HZ : Hid _ := hzt
            clear hzt
            have hz00 : (z == 0) = false := by simp; omega
            go_wp2
            go_ret
            exact ⟨rfl, HBE.out⟩
    · have HV : Hid _ := hv
      clear hv
      by_cases ht0 : 1 ≤ t
      · by_cases ht9 : t = 9
        · have ht9' : ((t : Int) == 9) = true := by simp; omega
          have ht1 : (1 : Int) ≤ (t : Int) := by omega
          by_cases hgt : 10 < n
          · go_wp2
            go_loop [11, 12] (fun tv jv => ∃ k : Nat, k ≤ t ∧ jv = .int .i64 k ∧ tv = .int .i64 (-1)) (fun _ jv => t + 1 - (intOf jv).toNat)
            case atStart => exact ⟨0, by omega, rfl, rfl⟩
            case round =>
              obtain ⟨k, hk, rfl, rfl⟩ := hrel
              by_cases hlt : k < t
              · have hz := HALL.out k hlt
                obtain ⟨b, off, rfl, hcs⟩ := HD2.out k (by omega)
                have hc := hcs k (by omega)
                clear hcs
                generalize zs.getD k 0 = z at hz hc
                go_wp2
                go_round
                case rel => exact ⟨k + 1, by omega, by go_num, rfl⟩
                case measure => simp [intOf]; omega
              · have hkN : t = k := by omega
                subst hkN
                obtain ⟨b, off, rfl, hcs⟩ := HD2.out t htn
                have hc := hcs t htn
                have HCS : Hid _ := hcs
                clear hcs
                generalize hzt : zs.getD t 0 = z at hlast hno1 hno2 hc
                have HZ : Hid _ := hzt
                clear hzt
                have hz00 : (z == 0) = false := by simp; omega
                have hz01 : z ≤ 1 := by omega
                clear hno1 hno2 ht9
                go_wp2
                go_loop [15, 16] (fun xv jv => ∃ k : Nat, k ≤ t + 1 ∧ jv = .int .i64 k ∧ xv = .int .u64 (acc zs k)) (fun _ jv => t + 2 - (intOf jv).toNat)
                case atStart => exact ⟨0, by omega, rfl, rfl⟩
                case round =>
                  obtain ⟨k, hk2, rfl, rfl⟩ := hrel
                  by_cases hkt : k < t
                  · have hck := HCS.out k (by omega)
                    have hbk := HB.out k
                    have hor : Hid _ := or_and zs k (by omega) hbk.1 hbk.2
                    have hkle : (k : Int) ≤ (t : Int) := by omega
                    generalize zs.getD k 0 = y at hck hbk hor
                    generalize acc zs k = a at hor
                    go_wp2
                    go_round
                    case rel => exact ⟨k + 1, by omega, by go_num, congrArg _ hor.out⟩
                    case measure => simp only [intOf]; omega
                  · by_cases hkt' : k = t
                    · subst hkt'
                      have hor : Hid _ := or_last_and zs k (by omega) (HB.out k).1 (by rw [HZ.out]; exact hlast) (fun e => by rw [HZ.out]; omega)
                      rw [HZ.out] at hor
                      generalize acc zs k = a at hor
                      go_wp2
                      go_round
                      case rel => exact ⟨k + 1, by omega, by go_num, congrArg _ hor.out⟩
                      case measure => simp only [intOf]; omega
                    · obtain rfl : k = t + 1 := by omega
                      have hgt' : ¬ ((t : Int) + 1 ≤ (t : Int)) := by omega
                      clear ht9' ht1
                      rw [← HV.out]
                      go_wp2
                      go_ret
                      exact ⟨by simp, HBE.out⟩
          · go_wp2
            go_loop [11, 12] (fun tv jv => ∃ k : Nat, k ≤ t ∧ jv = .int .i64 k ∧ tv = .int .i64 (-1)) (fun _ jv => t + 1 - (intOf jv).toNat)
            case atStart => exact ⟨0, by omega, rfl, rfl⟩
            case round =>
              obtain ⟨k, hk, rfl, rfl⟩ := hrel
              by_cases hlt : k < t
              · have hz := HALL.out k hlt
                obtain ⟨b, off, rfl, hcs⟩ := HD2.out k (by omega)
                have hc := hcs k (by omega)
                clear hcs
                generalize zs.getD k 0 = z at hz hc
                go_wp2
                go_round
                case rel => exact ⟨k + 1, by omega, by go_num, rfl⟩
                case measure => simp [intOf]; omega
              · have hkN : t = k := by omega
                subst hkN
                obtain ⟨b, off, rfl, hcs⟩ := HD2.out t htn
                have hc := hcs t htn
                have HCS : Hid _ := hcs
                clear hcs
                generalize hzt : zs.getD t 0 = z at hlast hno1 hno2 hc
                have HZ : Hid _ := hzt
                clear hzt
                have hz00 : (z == 0) = false := by simp; omega
                have hz01 : z ≤ 1 := by omega
                clear hno1 hno2 ht9
                go_wp2
                go_loop [15, 16] (fun xv jv => ∃ k : Nat, k ≤ t + 1 ∧ jv = .int .i64 k ∧ xv = .int .u64 (acc zs k)) (fun _ jv => t + 2 - (intOf jv).toNat)
                case atStart => exact ⟨0, by omega, rfl, rfl⟩
                case round =>
                  obtain ⟨k, hk2, rfl, rfl⟩ := hrel
                  by_cases hkt : k < t
                  · have hck := HCS.out k (by omega)
                    have hbk := HB.out k
                    have hor : Hid _ := or_and zs k (by omega) hbk.1 hbk.2
                    have hkle : (k : Int) ≤ (t : Int) := by omega
                    generalize zs.getD k 0 = y at hck hbk hor
                    generalize acc zs k = a at hor
                    go_wp2
                    go_round
                    case rel => exact ⟨k + 1, by omega, by go_num, congrArg _ hor.out⟩
                    case measure => simp only [intOf]; omega
                  · by_cases hkt' : k = t
                    · subst hkt'
                      have hor : Hid _ := or_last_and zs k (by omega) (HB.out k).1 (by rw [HZ.out]; exact hlast) (fun e => by rw [HZ.out]; omega)
                      rw [HZ.out] at hor
                      generalize acc zs k = a at hor
                      go_wp2
                      go_round
                      case rel => exact ⟨k + 1, by omega, by go_num, congrArg _ hor.out⟩
                      case measure => simp only [intOf]; omega
                    · obtain rfl : k = t + 1 := by omega
                      have hgt' : ¬ ((t : Int) + 1 ≤ (t : Int)) := by omega
                      clear ht9' ht1
                      rw [← HV.out]
                      go_wp2
                      go_ret
                      exact ⟨by simp, HBE.out⟩
        · have ht9' : ((t : Int) == 9) = false := by simp; omega
          have ht1 : (1 : Int) ≤ (t : Int) := by omega
          by_cases hgt : 10 < n
          · go_wp2
            go_loop [11, 12] (fun tv jv => ∃ k : Nat, k ≤ t ∧ jv = .int .i64 k ∧ tv = .int .i64 (-1)) (fun _ jv => t + 1 - (intOf jv).toNat)
            case atStart => exact ⟨0, by omega, rfl, rfl⟩
            case round =>
              obtain ⟨k, hk, rfl, rfl⟩ := hrel
              by_cases hlt : k < t
              · have hz := HALL.out k hlt
                obtain ⟨b, off, rfl, hcs⟩ := HD2.out k (by omega)
                have hc := hcs k (by omega)
                clear hcs
                generalize zs.getD k 0 = z at hz hc
                go_wp2
                go_round
                case rel => exact ⟨k + 1, by omega, by go_num, rfl⟩
                case measure => simp [intOf]; omega
              · have hkN : t = k := by omega
                subst hkN
                obtain ⟨b, off, rfl, hcs⟩ := HD2.out t htn
                have hc := hcs t htn
                have HCS : Hid _ := hcs
                clear hcs
                generalize hzt : zs.getD t 0 = z at hlast hno1 hno2 hc
                have HZ : Hid _ := hzt
                clear hzt
                have hz00 : (z == 0) = false := by simp; omega
                clear hno1 hno2
                go_wp2
                go_loop [15, 16] (fun xv jv => ∃ k : Nat, k ≤ t + 1 ∧ jv = .int .i64 k ∧ xv = .int .u64 (acc zs k)) (fun _ jv => t + 2 - (intOf jv).toNat)
                case atStart => exact ⟨0, by omega, rfl, rfl⟩
                case round =>
                  obtain ⟨k, hk2, rfl, rfl⟩ := hrel
                  by_cases hkt : k < t
                  · have hck := HCS.out k (by omega)
                    have hbk := HB.out k
                    have hor : Hid _ := or_and zs k (by omega) hbk.1 hbk.2
                    have hkle : (k : Int) ≤ (t : Int) := by omega
                    generalize zs.getD k 0 = y at hck hbk hor
                    generalize acc zs k = a at hor
                    go_wp2
                    go_round
                    case rel => exact ⟨k + 1, by omega, by go_num, congrArg _ hor.out⟩
                    case measure => simp only [intOf]; omega
                  · by_cases hkt' : k = t
                    · subst hkt'
                      have hor : Hid _ := or_last_and zs k (by omega) (HB.out k).1 (by rw [HZ.out]; exact hlast) (fun e => by rw [HZ.out]; omega)
                      rw [HZ.out] at hor
                      generalize acc zs k = a at hor
                      go_wp2
                      go_round
                      case rel => exact ⟨k + 1, by omega, by go_num, congrArg _ hor.out⟩
                      case measure => simp only [intOf]; omega
                    · obtain rfl : k = t + 1 := by omega
                      have hgt' : ¬ ((t : Int) + 1 ≤ (t : Int)) := by omega
                      clear ht9' ht1
                      rw [← HV.out]
                      go_wp2
                      go_ret
                      exact ⟨by simp, HBE.out⟩
          · go_wp2
            go_loop [11, 12] (fun tv jv => ∃ k : Nat, k ≤ t ∧ jv = .int .i64 k ∧ tv = .int .i64 (-1)) (fun _ jv => t + 1 - (intOf jv).toNat)
            case atStart => exact ⟨0, by omega, rfl, rfl⟩
            case round =>
              obtain ⟨k, hk, rfl, rfl⟩ := hrel
              by_cases hlt : k < t
              · have hz := HALL.out k hlt
                obtain ⟨b, off, rfl, hcs⟩ := HD2.out k (by omega)
                have hc := hcs k (by omega)
                clear hcs
                generalize zs.getD k 0 = z at hz hc
                go_wp2
                go_round
                case rel => exact ⟨k + 1, by omega, by go_num, rfl⟩
                case measure => simp [intOf]; omega
              · have hkN : t = k := by omega
                subst hkN
                obtain ⟨b, off, rfl, hcs⟩ := HD2.out t htn
                have hc := hcs t htn
                have HCS : Hid _ := hcs
                clear hcs
                generalize hzt : zs.getD t 0 = z at hlast hno1 hno2 hc
                have HZ : Hid _ := hzt
                clear hzt
                have hz00 : (z == 0) = false := by simp; omega
                clear hno1 hno2
                go_wp2
                go_loop [15, 16] (fun xv jv => ∃ k : Nat, k ≤ t + 1 ∧ jv = .int .i64 k ∧ xv = .int .u64 (acc zs k)) (fun _ jv => t + 2 - (intOf jv).toNat)
                case atStart => exact ⟨0, by omega, rfl, rfl⟩
                case round =>
                  obtain ⟨k, hk2, rfl, rfl⟩ := hrel
                  by_cases hkt : k < t
                  · have hck := HCS.out k (by omega)
                    have hbk := HB.out k
                    have hor : Hid _ := or_and zs k (by omega) hbk.1 hbk.2
                    have hkle : (k : Int) ≤ (t : Int) := by omega
                    generalize zs.getD k 0 = y at hck hbk hor
                    generalize acc zs k = a at hor
                    go_wp2
                    go_round
                    case rel => exact ⟨k + 1, by omega, by go_num, congrArg _ hor.out⟩
                    case measure => simp only [intOf]; omega
                  · by_cases hkt' : k = t
                    · subst hkt'
                      have hor : Hid _ := or_last_and zs k (by omega) (HB.out k).1 (by rw [HZ.out]; exact hlast) (fun e => by rw [HZ.out]; omega)
                      rw [HZ.out] at hor
                      generalize acc zs k = a at hor
                      go_wp2
                      go_round
                      case rel => exact ⟨k + 1, by omega, by go_num, congrArg _ hor.out⟩
                      case measure => simp only [intOf]; omega
                    · obtain rfl : k = t + 1 := by omega
                      have hgt' : ¬ ((t : Int) + 1 ≤ (t : Int)) := by omega
                      clear ht9' ht1
                      rw [← HV.out]
                      go_wp2
                      go_ret
                      exact ⟨by simp, HBE.out⟩
      · have ht9' : ((t : Int) == 9) = false := by simp; omega
        have ht1 : ¬ (1 : Int) ≤ (t : Int) := by omega
        by_cases hgt : 10 < n
        · go_wp2
          go_loop [11, 12] (fun tv jv => ∃ k : Nat, k ≤ t ∧ jv = .int .i64 k ∧ tv = .int .i64 (-1)) (fun _ jv => t + 1 - (intOf jv).toNat)
          case atStart => exact ⟨0, by omega, rfl, rfl⟩
          case round =>
            obtain ⟨k, hk, rfl, rfl⟩ := hrel
            by_cases hlt : k < t
            · exact absurd hlt (by omega)
            · have hkN : t = k := by omega
              subst hkN
              obtain ⟨b, off, rfl, hcs⟩ := HD2.out t htn
              have hc := hcs t htn
              have HCS : Hid _ := hcs
              clear hcs
              generalize hzt : zs.getD t 0 = z at hlast hno1 hno2 hc
              have HZ : Hid _ := hzt
              clear hzt
              clear hno1 hno2
              go_wp2
              go_loop [15, 16] (fun xv jv => ∃ k : Nat, k ≤ t + 1 ∧ jv = .int .i64 k ∧ xv = .int .u64 (acc zs k)) (fun _ jv => t + 2 - (intOf jv).toNat)
              case atStart => exact ⟨0, by omega, rfl, rfl⟩
              case round =>
                obtain ⟨k, hk2, rfl, rfl⟩ := hrel
                by_cases hkt : k < t
                · exact absurd hkt (by omega)
                · by_cases hkt' : k = t
                  · subst hkt'
                    have hor : Hid _ := or_last_and zs k (by omega) (HB.out k).1 (by rw [HZ.out]; exact hlast) (fun e => by rw [HZ.out]; omega)
                    rw [HZ.out] at hor
                    generalize acc zs k = a at hor
                    go_wp2
                    go_round
                    case rel => exact ⟨k + 1, by omega, by go_num, congrArg _ hor.out⟩
                    case measure => simp only [intOf]; omega
                  · obtain rfl : k = t + 1 := by omega
                    have hgt' : ¬ ((t : Int) + 1 ≤ (t : Int)) := by omega
                    clear ht9' ht1
                    rw [← HV.out]
                    go_wp2
                    go_ret
                    exact ⟨by simp, HBE.out⟩
        · go_wp2
          go_loop [11, 12] (fun tv jv => ∃ k : Nat, k ≤ t ∧ jv = .int .i64 k ∧ tv = .int .i64 (-1)) (fun _ jv => t + 1 - (intOf jv).toNat)
          case atStart => exact ⟨0, by omega, rfl, rfl⟩
          case round =>
            obtain ⟨k, hk, rfl, rfl⟩ := hrel
            by_cases hlt : k < t
            · exact absurd hlt (by omega)
            · have hkN : t = k := by omega
              subst hkN
              obtain ⟨b, off, rfl, hcs⟩ := HD2.out t htn
              have hc := hcs t htn
              have HCS : Hid _ := hcs
              clear hcs
              generalize hzt : zs.getD t 0 = z at hlast hno1 hno2 hc
              have HZ : Hid _ := hzt
              clear hzt
              clear hno1 hno2
              go_wp2
              go_loop [15, 16] (fun xv jv => ∃ k : Nat, k ≤ t + 1 ∧ jv = .int .i64 k ∧ xv = .int .u64 (acc zs k)) (fun _ jv => t + 2 - (intOf jv).toNat)
              case atStart => exact ⟨0, by omega, rfl, rfl⟩
              case round =>
                obtain ⟨k, hk2, rfl, rfl⟩ := hrel
                by_cases hkt : k < t
                · exact absurd hkt (by omega)
                · by_cases hkt' : k = t
                  · subst hkt'
                    have hor : Hid _ := or_last_and zs k (by omega) (HB.out k).1 (by rw [HZ.out]; exact hlast) (fun e => by rw [HZ.out]; omega)
                    rw [HZ.out] at hor
                    generalize acc zs k = a at hor
                    go_wp2
                    go_round
                    case rel => exact ⟨k + 1, by omega, by go_num, congrArg _ hor.out⟩
                    case measure => simp only [intOf]; omega
                  · obtain rfl : k = t + 1 := by omega
                    have hgt' : ¬ ((t : Int) + 1 ≤ (t : Int)) := by omega
                    clear ht9' ht1
                    rw [← HV.out]
                    go_wp2
                    go_ret
                    exact ⟨by simp, HBE.out⟩

end Go.Proofs.YbulkcynwDoor
