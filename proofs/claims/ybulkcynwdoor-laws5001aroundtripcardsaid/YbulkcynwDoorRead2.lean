/-
  varint.Read (function 7) over the law's own reader: THE WALK.
-/
import Derived.Test.YbulkcynwDoorRead
namespace Go.Proofs.YbulkcynwDoor
set_option linter.unusedVariables false
set_option linter.unusedSimpArgs false
open Go.RowKit

set_option maxHeartbeats 2000000 in
theorem read_any (R n c : Nat) (da : Option Addr) (zs : List Int) (aE a0 a1 a2 a3 : Addr) (eof : Bool) (w : World) (hn : n ≤ maxLen) (hR : 5 < R)
    (h0 : w.cell? ⟨R, 0, none⟩ = some (.slice da n c)) (h1 : w.cell? ⟨R, 1, none⟩ = some (.int .i64 0)) (h2 : w.cell? ⟨R, 2, none⟩ = some (.iface 40 (.pointer (some aE)))) (hf : w.frozen? ⟨R, 1, none⟩ = false)
    (hda : ∀ j, j < n → ∃ b off, da = some ⟨b, off, none⟩ ∧ b < w.heap.size ∧ b ≠ R ∧ ∀ j, j < n → w.cell? ⟨b, off + j, none⟩ = some (.int .u8 (zs.getD j 0)))
    (hbyte : ∀ j, 0 ≤ zs.getD j 0 ∧ zs.getD j 0 < 256)
    (hg0 : w.cell? ⟨0, 0, none⟩ = some (.iface 40 (.pointer (some a0)))) (hg1 : w.cell? ⟨1, 0, none⟩ = some (.iface 40 (.pointer (some a1))))
    (hg2 : w.cell? ⟨2, 0, none⟩ = some (.iface 40 (.pointer (some a2)))) (hg3 : w.cell? ⟨3, 0, none⟩ = some (.iface 40 (.pointer (some a3))))
    (heq : ∀ wr : World, (∀ i, i < w.heap.size → i ≠ R → wr.heap[i]? = w.heap[i]?) → (binOp .eql 24 (.iface 40 (.pointer (some aE))) (.iface 40 (.pointer (some a0)))).run Ybad.prog wr = .ok (.bool eof) wr) :
    Calls Ybad.prog 7 #[.iface 26 (.pointer (some ⟨R, 0, none⟩))] w fun e w' => ∃ v err kk, e = .returned (.tuple #[.int .u64 v, err]) ∧ Below w.heap.size (w.setCell ⟨R, 1, none⟩ (.int .i64 (kk : Nat))) w' ∧
      RdOut zs n (.iface 40 (.pointer (some aE))) (.iface 40 (.pointer (some a1))) (.iface 40 (.pointer (some a2))) (.iface 40 (.pointer (some a3))) eof v err kk := by
  have hRw : R < w.heap.size := World.block_lt_of_cell? w _ h1
  unfold maxLen at hn
  have hm := method_rb ⟨R, 0, none⟩
  have hnl := fun (wx : World) (v : Value) => run_eql_iface_nil_left (P := Ybad.prog) wx (ti := 24) 40 v Ybad.underlying24
  have HDA : Hid _ := hda
  have HEQ : Hid _ := heq
  have HB : Hid _ := hbyte
  have Hw : Hid _ := And.intro h0 (And.intro h1 (And.intro h2 (And.intro hf (And.intro hg0 (And.intro hg1 (And.intro hg2 hg3))))))
  clear hda heq hbyte h0 h2 hf hg0 hg1 hg2 hg3
  go_enter Ybad.func7, Ybad.ntmps7
  go_wp2
  go_loopw [9] (fun vj wr => ∃ k : Nat, k ≤ 10 ∧ k ≤ n ∧ vj = .int .i64 k ∧ RdInv w R zs k wr ∧ ∀ j, j < k → 128 ≤ zs.getD j 0) (fun vj wr => 10 - (intOf vj).toNat)
  case atStart => exact ⟨0, by omega, by omega, rfl, RdInv.start h1 _ rfl _, fun j hj => absurd hj (by omega)⟩
  case round =>
    obtain ⟨k, hk, hkn, rfl, hinv, hbig⟩ := hrel
    obtain ⟨h0, h1', h2, hf, hg0, hg1, hg2, hg3⟩ := Hw.out
    have r0 := (hinv.cell_other (a := ⟨R, 0, none⟩) hRw (by intro e; injection e; omega)).trans h0
    have r1 := hinv.place (by rw [h1']; rfl)
    have r2 := (hinv.cell_other (a := ⟨R, 2, none⟩) hRw (by intro e; injection e; omega)).trans h2
    have rf := (hinv.frozen (a := ⟨R, 1, none⟩) hRw).trans hf
    have g0 := (hinv.cell_other (a := ⟨0, 0, none⟩) (by show 0 < w.heap.size; omega) (by intro e; injection e; omega)).trans hg0
    have g1 := (hinv.cell_other (a := ⟨1, 0, none⟩) (by show 1 < w.heap.size; omega) (by intro e; injection e; omega)).trans hg1
    have g2 := (hinv.cell_other (a := ⟨2, 0, none⟩) (by show 2 < w.heap.size; omega) (by intro e; injection e; omega)).trans hg2
    have g3 := (hinv.cell_other (a := ⟨3, 0, none⟩) (by show 3 < w.heap.size; omega) (by intro e; injection e; omega)).trans hg3
    clear h0 h1' h1 h2 hf hg0 hg1 hg2 hg3
    have HI : Hid _ := hinv
    have HBG : Hid _ := hbig
    by_cases hlt : k < 10
    · by_cases hmore : k < n
      · obtain ⟨b, off, hdae, hbw, hbR, hcells⟩ := HDA.out k hmore
        have hcz := (hinv.cell_other (a := ⟨b, off + k, none⟩) hbw (by intro e; injection e; omega)).trans (hcells k hmore)
        have hz := HB.out k
        have har := hinv.arr k hlt
        clear hcells hinv hbig
        subst hdae
        generalize hzk : zs.getD k 0 = z at hcz hz
        have HZ : Hid _ := hzk
        clear hzk
        obtain ⟨va, hva⟩ := Option.isSome_iff_exists.1 har.1
        go_wp2_with fail
        refine (rb_more R b off n c k z wr hmore (by omega) r0 r1 rf hcz).mono ?_
        rintro e w' ⟨rfl, m, rfl⟩
        have hst := HI.out.step hRw hlt m
        rw [HZ.out] at hst
        have q0 : ((wr.setCell ⟨R, 1, none⟩ (.int .i64 ((k + 1 : Nat) : Int))).drewN m).cell? ⟨0, 0, none⟩ = some (.iface 40 (.pointer (some a0))) :=
          (World.cell?_setCell_other wr _ _ _ (by intro e; injection e; omega)).trans g0
        have qa : ((wr.setCell ⟨R, 1, none⟩ (.int .i64 ((k + 1 : Nat) : Int))).drewN m).cell? ⟨w.heap.size, k, none⟩ = some va :=
          (World.cell?_setCell_other wr _ _ _ (by intro e; injection e; omega)).trans hva
        have qf : ((wr.setCell ⟨R, 1, none⟩ (.int .i64 ((k + 1 : Nat) : Int))).drewN m).frozen? ⟨w.heap.size, k, none⟩ = false :=
          (World.frozen?_setCell wr _ _ _).trans har.2
        generalize (wr.setCell ⟨R, 1, none⟩ (.int .i64 ((k + 1 : Nat) : Int))).drewN m = w1 at hst q0 qa qf ⊢
        have HS : Hid _ := hst
        clear hst r0 r1 r2 rf g0 g1 g2 g3 hcz hva har hm
        by_cases hz1 : z < 128
        · have hsl := slice_b w.heap.size k hlt
          have hU : Hid _ := uv_in HS.out hlt (World.size_setCell w1 _ _).symm hR hRw HB.out HBG.out (by rw [HZ.out]; exact hz1) Hw.out.2.2.2.2.2.1 Hw.out.2.2.2.2.2.2.2
          go_wp2_with fail
          refine Calls.mono hU.out ?_
          rintro e w' ⟨v, err, rfl, hbel, hout⟩
          clear hU hsl
          go_wp2
          go_ret2
          exact ⟨v, err, k + 1, rfl, HS.out.below.trans hbel, Or.inr (Or.inr ⟨k, hmore, hlt, HBG.out, by rw [HZ.out]; exact hz1, hout, rfl⟩)⟩
        · have hz2 : 128 ≤ z := by omega
          clear hz1
          go_wp2
          go_roundw
          case rel => exact ⟨k + 1, by omega, by omega, by go_num, HS.out, fun j hj => by
            by_cases e : j = k
            · subst e; rw [HZ.out]; exact hz2
            · exact HBG.out j (by omega)⟩
          case measure => simp [intOf]; omega
      · obtain rfl : k = n := by omega
        have hq : Hid _ := fun m : Nat => HEQ.out (wr.drewN m) (fun i hi hne => hinv.heap hi hne)
        clear hinv hbig
        go_wp2_with fail
        refine (rb_end R k c k da _ _ _ (Nat.le_refl _) r0 r1 r2).mono ?_
        rintro e w' ⟨rfl, m, rfl⟩
        have hq' := hq.out m
        cases eof with
        | false =>
          go_wp2
          go_ret2
          exact ⟨_, _, k, rfl, below_drewN HI.out.below _, Or.inr (Or.inl ⟨hlt, HBG.out, rfl, by simp, rfl⟩)⟩
        | true =>
          by_cases hk0 : 0 < k
          · go_wp2
            go_ret2
            exact ⟨_, _, k, rfl, below_drewN HI.out.below _, Or.inr (Or.inl ⟨hlt, HBG.out, rfl, by rw [if_pos ⟨rfl, hk0⟩]; rfl, rfl⟩)⟩
          · obtain rfl : k = 0 := by omega
            go_wp2
            go_ret2
            exact ⟨_, _, 0, rfl, below_drewN HI.out.below _, Or.inr (Or.inl ⟨hlt, HBG.out, rfl, by simp, rfl⟩)⟩
    · obtain rfl : k = 10 := by omega
      clear hinv hbig
      go_wp2
      go_quiet (fail)
      go_wp2
      go_ret2
      exact ⟨_, _, 10, rfl, below_drewN HI.out.below _, Or.inl ⟨hkn, HBG.out, rfl, rfl, rfl⟩⟩

end Go.Proofs.YbulkcynwDoor
