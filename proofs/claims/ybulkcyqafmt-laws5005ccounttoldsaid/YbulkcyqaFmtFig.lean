/-
  PLAIN LAWS on the memory that count and the law work on: a block of figures, the map with at most one entry, the frame.
-/
import Derived.Test.YbulkcyqaFmtErr
import Derived.Maps.OwnSet
import Derived.Deep.MidRow
namespace Go.Proofs.YbulkcyqaFmt
set_option linter.unusedVariables false
set_option linter.unusedSimpArgs false
open Go.RowKit Go.Extern.Stop Go.Stop Go.Extern

/-- Block g holds the figures L (each six numbers), and nothing of it is frozen. -/
def Fig (w : World) (g : Nat) (L : List Int) : Prop := w.heap[g]? = some (.cells (L.map (Value.int .i64)).toArray 59 (0, 0))

theorem Fig.cell {w : World} {g : Nat} {L : List Int} (h : Fig w g L) {j : Nat} (hj : j < L.length) : w.cell? ⟨g, j, none⟩ = some (.int .i64 (L.getD j 0)) := by
  rw [cell_of_row w g j _ _ _ h]
  simp [List.getElem?_eq_getElem hj]

theorem Fig.frozen {w : World} {g : Nat} {L : List Int} (h : Fig w g L) (j : Nat) : w.frozen? ⟨g, j, none⟩ = false := by
  unfold Fig at h
  simp [World.frozen?, h]

theorem Fig.set {w : World} {g : Nat} {L : List Int} (h : Fig w g L) (j : Nat) (x : Int) : Fig (w.setCell ⟨g, j, none⟩ (.int .i64 x)) g (L.set j x) := by
  unfold Fig at h ⊢
  simp [World.setCell, Array.getElem?_modify, h, List.map_set]

theorem Fig.of_block {w w' : World} {g : Nat} {L : List Int} (h : Fig w g L) (hb : w'.heap[g]? = w.heap[g]?) : Fig w' g L := by
  unfold Fig at h ⊢
  rw [hb, h]

theorem Fig.lt {w : World} {g : Nat} {L : List Int} (h : Fig w g L) : g < w.heap.size := by
  unfold Fig at h
  exact (Array.getElem?_eq_some_iff.1 h).1

/-- Figure k of L, as a load of the struct gives it. -/
def six (L : List Int) (k : Nat) : List Value := [.int .i64 (L.getD (k * 6) 0), .int .i64 (L.getD (k * 6 + 1) 0), .int .i64 (L.getD (k * 6 + 2) 0), .int .i64 (L.getD (k * 6 + 3) 0), .int .i64 (L.getD (k * 6 + 4) 0), .int .i64 (L.getD (k * 6 + 5) 0)]

theorem Fig.six {w : World} {g : Nat} {L : List Int} (h : Fig w g L) {k : Nat} (hk : k * 6 + 5 < L.length) : w.rangeAt g (k * 6) (six L k) := by
  intro j v hv
  unfold YbulkcyqaFmt.six at hv
  match j, hv with
  | 0, hv => simp at hv; subst hv; simpa using h.cell (j := k * 6) (by omega)
  | 1, hv => simp at hv; subst hv; simpa using h.cell (j := k * 6 + 1) (by omega)
  | 2, hv => simp at hv; subst hv; simpa using h.cell (j := k * 6 + 2) (by omega)
  | 3, hv => simp at hv; subst hv; simpa using h.cell (j := k * 6 + 3) (by omega)
  | 4, hv => simp at hv; subst hv; simpa using h.cell (j := k * 6 + 4) (by omega)
  | 5, hv => simp at hv; subst hv; simpa using h.cell (j := k * 6 + 5) (by omega)
  | j + 6, hv => simp at hv

theorem Fig.there {w : World} {g : Nat} {L : List Int} (h : Fig w g L) {k : Nat} (hk : k * 6 + 5 < L.length) : w.there g (k * 6) 6 := by
  intro j hj
  refine ⟨?_, h.frozen _⟩
  rw [h.cell (j := k * 6 + j) (by omega)]
  rfl

/-- Six numbers laid over figure k. -/
def put6 (L : List Int) (k : Nat) (a b c d e f : Int) : List Int := (((((L.set (k * 6) a).set (k * 6 + 1) b).set (k * 6 + 2) c).set (k * 6 + 3) d).set (k * 6 + 4) e).set (k * 6 + 5) f

theorem length_put6 (L : List Int) (k : Nat) (a b c d e f : Int) : (put6 L k a b c d e f).length = L.length := by simp [put6]

theorem Fig.put6 {w : World} {g : Nat} {L : List Int} (h : Fig w g L) (k : Nat) (a b c d e f : Int) :
    Fig (w.setCells g (k * 6) [.int .i64 a, .int .i64 b, .int .i64 c, .int .i64 d, .int .i64 e, .int .i64 f]) g (put6 L k a b c d e f) := by
  unfold YbulkcyqaFmt.put6
  simp only [World.setCells]
  exact (((((h.set _ a).set _ b).set _ c).set _ d).set _ e).set _ f

theorem six_eq (L : List Int) (k : Nat) : six L k = [.int .i64 (L.getD (k * 6) 0), .int .i64 (L.getD (k * 6 + 1) 0), .int .i64 (L.getD (k * 6 + 2) 0), .int .i64 (L.getD (k * 6 + 3) 0), .int .i64 (L.getD (k * 6 + 4) 0), .int .i64 (L.getD (k * 6 + 5) 0)] := rfl

/-! ### the frame -/
/-- w' is w but for the blocks of X and for new ones. -/
structure Out (X : Nat → Prop) (w w' : World) : Prop where
  os : w'.os = w.os
  tape : w'.tape = w.tape
  output : w'.output = w.output
  size : w.heap.size ≤ w'.heap.size
  block : ∀ i, i < w.heap.size → ¬ X i → w'.heap[i]? = w.heap[i]?

theorem Out.refl (X : Nat → Prop) (w : World) : Out X w w := ⟨rfl, rfl, rfl, Nat.le_refl _, fun _ _ _ => rfl⟩
theorem Out.trans {X : Nat → Prop} {a b c : World} (h : Out X a b) (k : Out X b c) : Out X a c :=
  ⟨k.os.trans h.os, k.tape.trans h.tape, k.output.trans h.output, Nat.le_trans h.size k.size, fun i hi hx => (k.block i (Nat.lt_of_lt_of_le hi h.size) hx).trans (h.block i hi hx)⟩
theorem Out.drewN {X : Nat → Prop} {a w : World} (h : Out X a w) (n : Nat) : Out X a (w.drewN n) := h.trans ⟨rfl, rfl, rfl, Nat.le_refl _, fun _ _ _ => rfl⟩
theorem Out.alloc {X : Nat → Prop} {a w : World} (h : Out X a w) (o : Obj) : Out X a (w.alloc o) := h.trans ⟨rfl, rfl, rfl, by simp, fun k hk _ => Below.heap_alloc _ _ _ hk⟩
theorem Out.setCell {X : Nat → Prop} {a w : World} (h : Out X a w) {p : Addr} (hp : X p.block ∨ a.heap.size ≤ p.block) (u : Value) : Out X a (w.setCell p u) :=
  ⟨h.os, h.tape, h.output, by have := h.size; simpa [World.setCell] using this, fun k hk hx => by
    rw [Below.heap_setCell _ _ _ _ (fun e => by subst e; rcases hp with hp | hp; · exact hx hp
                                                · omega)]
    exact h.block k hk hx⟩
theorem Out.grown {X : Nat → Prop} {a w w' : World} {row : Option Nat} (h : Out X a w) (hg : w.grownBy w' row) (hr : ∀ k, row = some k → X k ∨ a.heap.size ≤ k) : Out X a w' :=
  ⟨hg.os.trans h.os, hg.tape.trans h.tape, hg.output.trans h.output, Nat.le_trans h.size hg.size, fun i hi hx => by
    rw [hg.block i (Nat.lt_of_lt_of_le hi h.size) (fun e => by rcases hr i e.symm with h1 | h1; · exact hx h1
                                                               · omega)]
    exact h.block i hi hx⟩
theorem Out.setCells {X : Nat → Prop} {a : World} {b : Nat} (hp : X b ∨ a.heap.size ≤ b) : ∀ (vs : List Value) (o : Nat) {w : World}, Out X a w → Out X a (w.setCells b o vs)
  | [], _, _, h => h
  | v :: r, o, w, h => Out.setCells hp r (o + 1) (h.setCell (p := ⟨b, o, none⟩) hp v)
theorem Out.below {X : Nat → Prop} {a w : World} {B : Nat} (h : Out X a w) (hB : B ≤ a.heap.size) (hX : ∀ i, X i → B ≤ i) : Below B a w :=
  ⟨h.os, h.tape, h.output, h.size, fun k hk => h.block k (by omega) (fun hx => by have := hX k hx; omega)⟩
theorem Out.mono {X Y : Nat → Prop} {a w : World} (h : Out X a w) (hXY : ∀ i, X i → Y i) : Out Y a w := ⟨h.os, h.tape, h.output, h.size, fun i hi hy => h.block i hi (fun hx => hy (hXY i hx))⟩

/-! ### the map -/
def Rv (v : Value) : Option (DataW Value × List MemPlace) := some (.held v, [])

/-- The map in block M is empty. -/
def Mp0 (w : World) (M : Nat) : Prop := w.ownsMap Ybaf.prog 9 Rv M 0 (.map [])
/-- It holds v at hol, and nothing else. -/
def Mp1 (w : World) (M : Nat) (hol : ByteArray) (v : Value) : Prop := w.ownsMap Ybaf.prog 9 Rv M 1 ((DataW.map []).put (.string hol.data.toList) (.held v))

theorem key9 {hol : ByteArray} (hs : hol.size ≤ maxLen) : keyOf Ybaf.prog 9 (.string hol) = some (.string hol.data.toList) := WideMaps.keyOf_string_mk Ybaf.underlying9 hs
theorem zero30 (w : World) : (zeroValue 30).run Ybaf.prog w = .ok (.slice none 0 0) w := by kernel_rfl

theorem Mp0.look {w : World} {M : Nat} (h : Mp0 w M) {hol : ByteArray} (hs : hol.size ≤ maxLen) : (Instr.lookup 49 (.map (some M)) (.string hol) false).run Ybaf.prog w = .ok (.slice none 0 0) w := by
  obtain ⟨v, ps, hr, hv⟩ := World.ownsMap.lookup h (Go.Maps.string_keyed Ybaf.underlying9) Ybaf.underlying49 (zero30 w) (show Rv _ = some (.held (.slice none 0 0), []) from rfl) (key9 hs)
  simp [Rv, DataW.atKey] at hv
  rw [hr, hv.1]
theorem Mp1.look {w : World} {M : Nat} {hol : ByteArray} {u : Value} (h : Mp1 w M hol u) (hs : hol.size ≤ maxLen) : (Instr.lookup 49 (.map (some M)) (.string hol) false).run Ybaf.prog w = .ok u w := by
  obtain ⟨v, ps, hr, hv⟩ := World.ownsMap.lookup h (Go.Maps.string_keyed Ybaf.underlying9) Ybaf.underlying49 (zero30 w) (show Rv _ = some (.held (.slice none 0 0), []) from rfl) (key9 hs)
  rw [Maps.atKey_put_same ⟨_, rfl⟩ (by trivial)] at hv
  simp [Rv] at hv
  rw [hr, hv.1]
theorem Mp0.len {w : World} {M : Nat} (h : Mp0 w M) (ty : TypeId) : (Builtin.len_ #[49] ty #[.map (some M)]).run Ybaf.prog w = .ok (.int .i64 0) w := World.ownsMap.len h Ybaf.underlying49 ty
theorem Mp1.len {w : World} {M : Nat} {hol : ByteArray} {u : Value} (h : Mp1 w M hol u) (ty : TypeId) : (Builtin.len_ #[49] ty #[.map (some M)]).run Ybaf.prog w = .ok (.int .i64 1) w := World.ownsMap.len h Ybaf.underlying49 ty
theorem Mp0.store {w : World} {M : Nat} (h : Mp0 w M) {hol : ByteArray} (hs : hol.size ≤ maxLen) (u : Value) :
    ∃ w', (Instr.mapUpdate 49 (.map (some M)) (.string hol) u).run Ybaf.prog w = .ok () w' ∧ Mp1 w' M hol u ∧ w.grownBy w' (some M) :=
  World.ownsMap.update h (Go.Maps.string_keyed Ybaf.underlying9) Ybaf.underlying49 (by decide) (key9 hs) (show Rv u = some (.held u, []) from rfl)
theorem Mp0.of_block {w w' : World} {M : Nat} (h : Mp0 w M) (hb : w'.heap[M]? = w.heap[M]?) : Mp0 w' M := by
  obtain ⟨es, clock, h1, h2⟩ := h
  exact ⟨es, clock, by rw [hb, h1], h2⟩
theorem Mp1.of_block {w w' : World} {M : Nat} {hol : ByteArray} {u : Value} (h : Mp1 w M hol u) (hb : w'.heap[M]? = w.heap[M]?) : Mp1 w' M hol u := by
  obtain ⟨es, clock, h1, h2⟩ := h
  exact ⟨es, clock, by rw [hb, h1], h2⟩
theorem Mp0.lt {w : World} {M : Nat} (h : Mp0 w M) : M < w.heap.size := World.ownsMap.lt h
theorem Mp1.lt {w : World} {M : Nat} {hol : ByteArray} {u : Value} (h : Mp1 w M hol u) : M < w.heap.size := World.ownsMap.lt h

/-! ### make([]Figures, n) -/
theorem made59 (n : Nat) : (madeCells (Value.agg #[.int .i64 0, .int .i64 0, .int .i64 0, .int .i64 0, .int .i64 0, .int .i64 0]).cells (n * 6)) = ((List.replicate (n * 6) (0 : Int)).map (Value.int .i64)).toArray := by
  have hc : (Value.agg #[.int .i64 0, .int .i64 0, .int .i64 0, .int .i64 0, .int .i64 0, .int .i64 0]).cells = Array.replicate 6 (Value.int .i64 0) := by rfl
  rw [hc]
  apply Array.ext
  · simp [madeCells]
  · intro i h1 h2
    have : i % 6 < 6 := Nat.mod_lt _ (by decide)
    simp [madeCells, this]

theorem fig_made {w : World} {base g n : Nat} (h : w.ownsRow base 59 6 (.slice (some ⟨g, 0, none⟩) n n) n (madeCells (Value.agg #[.int .i64 0, .int .i64 0, .int .i64 0, .int .i64 0, .int .i64 0, .int .i64 0]).cells (n * 6)).toList) :
    Fig w g (List.replicate (n * 6) 0) := by
  obtain ⟨hl, h⟩ := h
  rcases h with ⟨h1, _⟩ | ⟨g', cap, cur, hv, hb, hg, h1, h2, h3, h4⟩
  · cases h1
  · cases hv
    have e : cur.toList.take (n * 6) = cur.toList := List.take_of_length_le (by simp [h3])
    rw [e] at h4
    have e2 : cur = madeCells (Value.agg #[.int .i64 0, .int .i64 0, .int .i64 0, .int .i64 0, .int .i64 0, .int .i64 0]).cells (n * 6) := Array.toList_inj.1 h4
    unfold Fig
    rw [hg, e2, made59]

end Go.Proofs.YbulkcyqaFmt
