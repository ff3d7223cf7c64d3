/-
  varint.Read (function 7) over the law's own reader: what it answers, for every data.
-/
import Derived.Test.YbulkcynwDoorRb
import Derived.LaidEql
namespace Go.Proofs.YbulkcynwDoor
set_option linter.unusedVariables false
set_option linter.unusedSimpArgs false
open Go.RowKit

theorem method_rb (a : Addr) (w : World) : (method 195 26 (.pointer (some a)) "ReadByte").run Ybad.prog w = .ok (43, .pointer (some a)) w := by kernel_rfl

/-- 'b[:k+1]' of Read's array. -/
theorem slice_b (B k : Nat) (hk : k < 10) (w : World) : (Instr.sliceAt 45 (.pointer (some ⟨B, 0, none⟩)) none (some (.int .i64 ((k : Int) + 1))) none).run Ybad.prog w = .ok (.slice (some ⟨B, 0, none⟩) (k + 1) 10) w := by
  have hlen : Ybad.prog.arrayLen 45 = 10 := by kernel_rfl
  have hel : Ybad.prog.elem 45 = 5 := by kernel_rfl
  have hu : Ybad.prog.underlying 45 = some (.array (Ybad.prog.arrayLen 45) (Ybad.prog.elem 45)) := by kernel_rfl
  have hs : (sizeOf 5).run Ybad.prog w = .ok 1 w := by kernel_rfl
  rw [run_sliceAt_array_h w 45 _ hu .i64 _ (by omega) (by rw [hlen]; omega), hel, hs, hlen]
  have e : ((k : Int) + 1).toNat = k + 1 := by omega
  simp [Result.andThen, slicedAt, e, Addr.add]

/-- What stays so while Read goes round: k bytes are read (w: the world when Read was called; its own array is the block 'w.heap.size'). -/
structure RdInv (w : World) (R : Nat) (zs : List Int) (k : Nat) (wr : World) : Prop where
  below : Below w.heap.size (w.setCell ⟨R, 1, none⟩ (.int .i64 k)) wr
  size : w.heap.size < wr.heap.size
  arr : ∀ j, j < 10 → (wr.cell? ⟨w.heap.size, j, none⟩).isSome = true ∧ wr.frozen? ⟨w.heap.size, j, none⟩ = false
  got : ∀ j, j < k → wr.cell? ⟨w.heap.size, j, none⟩ = some (.int .u8 (zs.getD j 0))

theorem setCell_self (w : World) (a : Addr) (v : Value) (h : w.cell? a = some v) (k : Nat) : (w.setCell a v).heap[k]? = w.heap[k]? := by
  rw [heap_setCell_any]
  split
  · rename_i e
    subst e
    unfold World.cell? at h
    split at h
    · rename_i c e f hb
      rw [hb]
      simp only [Option.map_some, storeIn]
      cases hs : a.spot.isSome with
      | true => simp
      | false =>
        simp only [hs] at h
        have h' : c[a.off]? = some v := by simpa using h
        congr 1
        simp only [Bool.false_eq_true, if_false, Obj.cells.injEq, and_self, and_true]
        apply Array.ext_getElem?
        intro i
        rw [Array.getElem?_setIfInBounds]
        split
        · rename_i e
          subst e
          have : a.off < c.size := by
            rcases Nat.lt_or_ge a.off c.size with h2 | h2
            · exact h2
            · simp [Array.getElem?_eq_none h2] at h'
          rw [Array.getElem?_eq_getElem this] at h'
          simp [this, Option.some.inj h']
        · rfl
    · simp at h
  · rfl

theorem RdInv.start {w : World} {R : Nat} {zs : List Int} (h1 : w.cell? ⟨R, 1, none⟩ = some (.int .i64 0)) (cs : Array Value) (hcs : cs.size = 10) (t : TypeId) : RdInv w R zs 0 (w.alloc (.cells cs t)) := by
  refine ⟨⟨rfl, rfl, rfl, by simp, fun k hk => ?_⟩, by simp, fun j hj => ⟨?_, ?_⟩, fun j hj => absurd hj (by omega)⟩
  · rw [Below.heap_alloc _ _ _ hk]
    exact (setCell_self w _ _ h1 k).symm
  · rw [World.cell?_alloc_new]; simp [hcs, hj]
  · rw [World.frozen?_alloc_new]

theorem RdInv.cell_other {w wr : World} {R k : Nat} {zs : List Int} (h : RdInv w R zs k wr) {a : Addr} (ha : a.block < w.heap.size) (hR : a ≠ ⟨R, 1, none⟩) : wr.cell? a = w.cell? a := by
  rw [h.below.cell (p := a) ha, World.cell?_setCell_other _ _ _ _ (fun e => hR e.symm)]
theorem RdInv.place {w wr : World} {R k : Nat} {zs : List Int} (h : RdInv w R zs k wr) (h1 : (w.cell? ⟨R, 1, none⟩).isSome = true) : wr.cell? ⟨R, 1, none⟩ = some (.int .i64 k) := by
  obtain ⟨u, hu⟩ := Option.isSome_iff_exists.1 h1
  rw [h.below.cell (p := ⟨R, 1, none⟩) (World.block_lt_of_cell? _ _ hu), World.cell?_setCell_same _ _ _ hu]
theorem RdInv.frozen {w wr : World} {R k : Nat} {zs : List Int} (h : RdInv w R zs k wr) {a : Addr} (ha : a.block < w.heap.size) : wr.frozen? a = w.frozen? a := by
  rw [h.below.frozen (p := a) ha, World.frozen?_setCell]
theorem RdInv.heap {w wr : World} {R k : Nat} {zs : List Int} (h : RdInv w R zs k wr) {i : Nat} (ha : i < w.heap.size) (hR : i ≠ R) : wr.heap[i]? = w.heap[i]? := by
  rw [h.below.block i ha, Below.heap_setCell _ _ _ _ hR]

/-- A byte more: the reader's place moves on, the byte is laid in the array. -/
theorem RdInv.step {w wr : World} {R k : Nat} {zs : List Int} (h : RdInv w R zs k wr) (hR : R < w.heap.size) (hk : k < 10) (m : Nat) :
    RdInv w R zs (k + 1) (((wr.setCell ⟨R, 1, none⟩ (.int .i64 ((k + 1 : Nat) : Int))).drewN m).setCell ⟨w.heap.size, k, none⟩ (.int .u8 (zs.getD k 0))) := by
  refine ⟨Below.setCell (p := ⟨w.heap.size, k, none⟩) (below_drewN (below_restore h.below _) m) (Nat.le_refl _) _, ?_, fun j hj => ⟨?_, ?_⟩, fun j hj => ?_⟩
  · have := h.size; simpa using this
  all_goals
    have e : ∀ j, ((wr.setCell ⟨R, 1, none⟩ (.int .i64 ((k + 1 : Nat) : Int))).drewN m).cell? ⟨w.heap.size, j, none⟩ = wr.cell? ⟨w.heap.size, j, none⟩ := fun j =>
      World.cell?_setCell_other wr _ _ _ (by intro e; injection e; omega)
  · by_cases ejk : j = k
    · subst ejk
      rw [World.cell?_setCell_same' _ _ _ (by rw [e]; exact (h.arr j hj).1)]; rfl
    · rw [World.cell?_setCell_other _ _ _ _ (by intro e; injection e; omega), e]
      exact (h.arr j hj).1
  · rw [World.frozen?_setCell]
    show (wr.setCell _ _).frozen? _ = false
    rw [World.frozen?_setCell]
    exact (h.arr j hj).2
  · by_cases ejk : j = k
    · subst ejk
      rw [World.cell?_setCell_same' _ _ _ (by rw [e]; exact (h.arr j hk).1)]
    · rw [World.cell?_setCell_other _ _ _ _ (by intro e; injection e; omega), e]
      exact h.got j (by omega)

/-- What Read answers: the value, the error, how many bytes it took. G0 .. G3: what io.EOF, ErrTooLarge, io.ErrUnexpectedEOF, ErrTooLong hold; E: the reader's own end; 'eof': E is io.EOF. -/
def RdOut (zs : List Int) (n : Nat) (E G1 G2 G3 : Value) (eof : Bool) (v : Int) (err : Value) (kk : Nat) : Prop :=
  (10 ≤ n ∧ (∀ j, j < 10 → 128 ≤ zs.getD j 0) ∧ v = 0 ∧ err = G1 ∧ kk = 10) ∨
  (n < 10 ∧ (∀ j, j < n → 128 ≤ zs.getD j 0) ∧ v = 0 ∧ err = (if eof = true ∧ 0 < n then G2 else E) ∧ kk = n) ∨
  ∃ t, t < n ∧ t < 10 ∧ (∀ j, j < t → 128 ≤ zs.getD j 0) ∧ zs.getD t 0 < 128 ∧ UvOut zs t G1 G3 v err ∧ kk = t + 1

/-- The call of Uvarint inside Read: a reader over the first k + 1 bytes of Read's array, in a block of its own. -/
theorem uv_in {w w2 : World} {R k I : Nat} {zs : List Int} (h : RdInv w R zs (k + 1) w2) (hk : k < 10) (hI : I = w2.heap.size) (hR : 5 < R) (hRw : R < w.heap.size) (hb : ∀ j, 0 ≤ zs.getD j 0 ∧ zs.getD j 0 < 256) (hbig : ∀ j, j < k → 128 ≤ zs.getD j 0) (hlast : zs.getD k 0 < 128)
    {a1 a3 : Addr} (hg1 : w.cell? ⟨1, 0, none⟩ = some (.iface 40 (.pointer (some a1)))) (hg3 : w.cell? ⟨3, 0, none⟩ = some (.iface 40 (.pointer (some a3)))) :
    Calls Ybad.prog 11 #[.pointer (some ⟨I, 0, none⟩)] (w2.alloc (.cells #[.slice (some ⟨w.heap.size, 0, none⟩) (k + 1) 10, .int .i64 0] 49)) fun e w' =>
      ∃ v err, e = .returned (.tuple #[.int .u64 v, err]) ∧ Below w.heap.size w2 w' ∧ UvOut zs k (.iface 40 (.pointer (some a1))) (.iface 40 (.pointer (some a3))) v err := by
  subst hI
  have hs := h.size
  refine (uv11_any w2.heap.size w.heap.size k 10 zs a1 a3 _ hk ?_ ?_ ?_ (fun j hj => ?_) hb hbig hlast (by omega) ?_ ?_).mono ?_
  · rw [World.cell?_alloc_new]; rfl
  · rw [World.cell?_alloc_new]; rfl
  · rw [World.frozen?_alloc_new]
  · rw [World.cell?_alloc_lt _ _ _ (by exact hs)]
    exact h.got j hj
  · rw [World.cell?_alloc_lt _ _ _ (by show 1 < w2.heap.size; omega)]
    exact (h.cell_other (a := ⟨1, 0, none⟩) (by show 1 < w.heap.size; omega) (by intro e; injection e; omega)).trans hg1
  · rw [World.cell?_alloc_lt _ _ _ (by show 3 < w2.heap.size; omega)]
    exact (h.cell_other (a := ⟨3, 0, none⟩) (by show 3 < w.heap.size; omega) (by intro e; injection e; omega)).trans hg3
  · rintro e w' ⟨v, err, he, hbel, ho⟩
    exact ⟨v, err, he, (Below.alloc (Below.refl w.heap.size w2) (by omega) _).trans (hbel.mono (by omega)), ho⟩

end Go.Proofs.YbulkcynwDoor
