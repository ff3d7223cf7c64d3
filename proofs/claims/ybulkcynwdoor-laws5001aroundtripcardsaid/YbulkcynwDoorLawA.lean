/-
  varint.LawS5001AModel (function 3): THE WALK.
-/
import Derived.Test.YbulkcynwDoorRead2
namespace Go.Proofs.YbulkcynwDoor
set_option linter.unusedVariables false
set_option linter.unusedSimpArgs false
open Go.RowKit

set_option maxHeartbeats 400000 in
/-- errors.New. -/
theorem new6 (s : ByteArray) (w : World) : Calls Ybad.prog 6 #[.string s] w fun e w' => e = .returned (.iface 40 (.pointer (some ⟨w.heap.size, 0, none⟩))) ∧ w' = w.alloc (.cells #[.string s] 42) := by
  go_enter Ybad.func6, Ybad.ntmps6
  go_wp2
  go_ret
  exact ⟨rfl, rfl⟩

/-- Behind the call of Read over a reader in the newest block: of what was there ahead of the reader nothing has turned; the reader's place. -/
theorem after_read {w w' : World} {cs : Array Value} {t : TypeId} {kk : Nat} (h : Below (w.alloc (.cells cs t)).heap.size ((w.alloc (.cells cs t)).setCell ⟨w.heap.size, 1, none⟩ (.int .i64 kk)) w') (hcs : 1 < cs.size) :
    (∀ a : Addr, a.block < w.heap.size → w'.cell? a = w.cell? a) ∧ w'.cell? ⟨w.heap.size, 1, none⟩ = some (.int .i64 kk) ∧ Below w.heap.size w w' := by
  rw [World.size_alloc] at h
  have hb : Below w.heap.size w w' := (Below.setCell (p := ⟨w.heap.size, 1, none⟩) (Below.alloc (Below.refl w.heap.size w) (Nat.le_refl _) (.cells cs t)) (Nat.le_refl _) (.int .i64 kk)).trans (h.mono (by omega))
  refine ⟨fun a ha => hb.cell (p := a) ha, ?_, hb⟩
  rw [h.cell (p := ⟨w.heap.size, 1, none⟩) (by show w.heap.size < w.heap.size + 1; omega)]
  have e : (w.alloc (.cells cs t)).cell? ⟨w.heap.size, 1, none⟩ = cs[1]? := World.cell?_alloc_new w cs t 1
  exact World.cell?_setCell_same' _ _ _ (by rw [e]; simp [hcs])

/-- The call of Read, over the law's reader in the newest block. -/
theorem read_law (n c : Nat) (da : Option Addr) (zs : List Int) (aE a0 a1 a2 a3 : Addr) (eof : Bool) (w : World) (hn : n ≤ maxLen) (hw : 5 < w.heap.size)
    (hda : ∀ j, j < n → ∃ b off, da = some ⟨b, off, none⟩ ∧ b < w.heap.size ∧ ∀ j, j < n → w.cell? ⟨b, off + j, none⟩ = some (.int .u8 (zs.getD j 0)))
    (hbyte : ∀ j, 0 ≤ zs.getD j 0 ∧ zs.getD j 0 < 256)
    (hg0 : w.cell? ⟨0, 0, none⟩ = some (.iface 40 (.pointer (some a0)))) (hg1 : w.cell? ⟨1, 0, none⟩ = some (.iface 40 (.pointer (some a1))))
    (hg2 : w.cell? ⟨2, 0, none⟩ = some (.iface 40 (.pointer (some a2)))) (hg3 : w.cell? ⟨3, 0, none⟩ = some (.iface 40 (.pointer (some a3))))
    (heq : ∀ wr : World, (∀ i, i < w.heap.size → wr.heap[i]? = w.heap[i]?) → (binOp .eql 24 (.iface 40 (.pointer (some aE))) (.iface 40 (.pointer (some a0)))).run Ybad.prog wr = .ok (.bool eof) wr) :
    Calls Ybad.prog 7 #[.iface 26 (.pointer (some ⟨w.heap.size, 0, none⟩))] (w.alloc (.cells #[.slice da n c, .int .i64 0, .iface 40 (.pointer (some aE))] 28)) fun e w' => ∃ v err kk, e = .returned (.tuple #[.int .u64 v, err]) ∧
      ((∀ a : Addr, a.block < w.heap.size → w'.cell? a = w.cell? a) ∧ w'.cell? ⟨w.heap.size, 1, none⟩ = some (.int .i64 (kk : Nat)) ∧ Below w.heap.size w w') ∧
      RdOut zs n (.iface 40 (.pointer (some aE))) (.iface 40 (.pointer (some a1))) (.iface 40 (.pointer (some a2))) (.iface 40 (.pointer (some a3))) eof v err kk := by
  have old : ∀ a : Addr, a.block < w.heap.size → (w.alloc (.cells #[.slice da n c, .int .i64 0, .iface 40 (.pointer (some aE))] 28)).cell? a = w.cell? a := fun a ha => World.cell?_alloc_lt _ _ _ ha
  refine (read_any w.heap.size n c da zs aE a0 a1 a2 a3 eof _ hn hw ?_ ?_ ?_ ?_ ?_ hbyte ?_ ?_ ?_ ?_ ?_).mono ?_
  · rw [World.cell?_alloc_new]; rfl
  · rw [World.cell?_alloc_new]; rfl
  · rw [World.cell?_alloc_new]; rfl
  · rw [World.frozen?_alloc_new]
  · intro j hj
    obtain ⟨b, off, e, hb, hc⟩ := hda j hj
    exact ⟨b, off, e, by rw [World.size_alloc]; omega, by omega, fun i hi => (old _ hb).trans (hc i hi)⟩
  · exact (old _ (by show 0 < w.heap.size; omega)).trans hg0
  · exact (old _ (by show 1 < w.heap.size; omega)).trans hg1
  · exact (old _ (by show 2 < w.heap.size; omega)).trans hg2
  · exact (old _ (by show 3 < w.heap.size; omega)).trans hg3
  · intro wr hwr
    exact heq wr (fun i hi => (hwr i (by rw [World.size_alloc]; omega) (by omega)).trans (Below.heap_alloc _ _ _ hi))
  · rintro e w' ⟨v, err, kk, he, hb, ho⟩
    exact ⟨v, err, kk, he, after_read hb (by show 1 < 3; omega), ho⟩

abbrev stopS : ByteArray := { data := #[122, 122, 32, 115, 116, 111, 112] }

theorem comp40 : (Ybad.prog.info? 40).map (·.comparable) = some true := by kernel_rfl
theorem size42 : (Ybad.prog.info? 42).map (·.size) = some 1 := by kernel_rfl

/-- '==' between two errors that are one pointer. -/
theorem eq_same (a : Addr) (w : World) : (binOp .eql 24 (.iface 40 (.pointer (some a))) (.iface 40 (.pointer (some a)))).run Ybad.prog w = .ok (.bool true) w := by
  obtain ⟨i, hi, hc⟩ := Option.map_eq_some_iff.1 comp40
  obtain ⟨j, hj, _⟩ := Option.map_eq_some_iff.1 size42
  exact run_eql_iface_ptr_same w a Ybad.underlying24 Ybad.underlying40 hi hc hj

/-- .. between two pointers. -/
theorem eq_other {a b : Addr} {ca cb : Array Value} {ta tb : TypeId} (w : World) (hne : a ≠ b) (ha : w.heap[a.block]? = some (.cells ca ta (0, 0))) (hb : w.heap[b.block]? = some (.cells cb tb (0, 0))) :
    (binOp .eql 24 (.iface 40 (.pointer (some a))) (.iface 40 (.pointer (some b)))).run Ybad.prog w = .ok (.bool false) w := by
  obtain ⟨i, hi, hc⟩ := Option.map_eq_some_iff.1 comp40
  obtain ⟨j, hj, hz⟩ := Option.map_eq_some_iff.1 size42
  exact run_eql_iface_ptr_other w Ybad.underlying24 Ybad.underlying40 hi hc hj (by rw [hz]; decide) hne ha hb

end Go.Proofs.YbulkcynwDoor
