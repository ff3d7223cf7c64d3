/-
  A figure (six cells) loaded and stored whole, for the walk.
-/
import Derived.Test.YbulkcyqaFmtBase
import Derived.Deep.Cut
namespace Go.Proofs.YbulkcyqaFmt
set_option linter.unusedVariables false
set_option linter.unusedSimpArgs false
open Go.RowKit

theorem wpList_load6v {ops : Array Oper} {rest : List Oper} {op : Oper} {a : Act} {w : World} {Q : Exit → Act → World → Prop} (hgd : op.guard = none) (x : Operand) (ho : op.op = .load 59 x)
    (b o : Nat) (v : Nat → Int) (hx : a.eval x = .pointer (some ⟨b, o, none⟩)) (hc : ∀ j, j < 6 → w.cell? ⟨b, o + j, none⟩ = some (.int .i64 (v j)))
    (h : wpList Ybaf.prog ops Q rest (a.put op.dst (.agg #[.int .i64 (v 0), .int .i64 (v 1), .int .i64 (v 2), .int .i64 (v 3), .int .i64 (v 4), .int .i64 (v 5)])) w) : wpList Ybaf.prog ops Q (op :: rest) a w :=
  wpList_load_mid hgd 59 x ho b o hx [.int .i64 (v 0), .int .i64 (v 1), .int .i64 (v 2), .int .i64 (v 3), .int .i64 (v 4), .int .i64 (v 5)] _ (by
    intro j u hu
    match j, hu with
    | 0, hu => simp at hu; subst hu; exact hc 0 (by decide)
    | 1, hu => simp at hu; subst hu; exact hc 1 (by decide)
    | 2, hu => simp at hu; subst hu; exact hc 2 (by decide)
    | 3, hu => simp at hu; subst hu; exact hc 3 (by decide)
    | 4, hu => simp at hu; subst hu; exact hc 4 (by decide)
    | 5, hu => simp at hu; subst hu; exact hc 5 (by decide)
    | j + 6, hu => simp at hu) Ybaf.underlying59 rfl (by kernel_rfl) h

/-- w' is w but for block g. -/
structure But (g : Nat) (w w' : World) : Prop where
  os : w'.os = w.os
  tape : w'.tape = w.tape
  output : w'.output = w.output
  size : w'.heap.size = w.heap.size
  block : ∀ i, i ≠ g → w'.heap[i]? = w.heap[i]?

theorem But.setCells (g : Nat) : ∀ (vs : List Value) (o : Nat) (w : World), But g w (w.setCells g o vs)
  | [], _, w => ⟨rfl, rfl, rfl, rfl, fun _ _ => rfl⟩
  | v :: r, o, w => by
    have h := But.setCells g r (o + 1) (w.setCell ⟨g, o, none⟩ v)
    exact ⟨h.os, h.tape, h.output, h.size.trans (by simp [World.setCell]), fun i hi => (h.block i hi).trans (Below.heap_setCell _ _ _ _ hi)⟩

theorem But.out {g : Nat} {X : Nat → Prop} {a w w' : World} (h : But g w w') (ho : Out X a w) (hg : X g ∨ a.heap.size ≤ g) : Out X a w' :=
  ⟨h.os.trans ho.os, h.tape.trans ho.tape, h.output.trans ho.output, by rw [h.size]; exact ho.size, fun i hi hx => by
    rw [h.block i (fun e => by subst e; rcases hg with hg | hg; · exact hx hg
                               · omega)]
    exact ho.block i hi hx⟩
theorem But.below {g B : Nat} {a w w' : World} (h : But g w w') (ho : Below B a w) (hg : B ≤ g) : Below B a w' :=
  ⟨h.os.trans ho.os, h.tape.trans ho.tape, h.output.trans ho.output, by rw [h.size]; exact ho.size, fun i hi => by
    rw [h.block i (by omega)]
    exact ho.block i hi⟩

/-- w' is w but for the draws. -/
structure Sm (w w' : World) : Prop where
  os : w'.os = w.os
  tape : w'.tape = w.tape
  output : w'.output = w.output
  heap : w'.heap = w.heap
theorem Sm.below {B : Nat} {a w w' : World} (h : Sm w w') (ho : Below B a w) : Below B a w' :=
  ⟨h.os.trans ho.os, h.tape.trans ho.tape, h.output.trans ho.output, by rw [h.heap]; exact ho.size, fun i hi => by rw [h.heap]; exact ho.block i hi⟩
theorem Sm.cells {w w' : World} {g n j : Nat} {L : List Int} (h : Sm w w') (hF : Fig w g L) (hL : L.length = n * 6) (hj : j < n) : ∀ t, t < 6 → w'.cell? ⟨g, j * 6 + t, none⟩ = some (.int .i64 (L.getD (j * 6 + t) 0)) := fun t ht =>
  (hF.of_block (w' := w') (by rw [h.heap])).cell (by omega)

theorem wpList_store6 {ops : Array Oper} {rest : List Oper} {op : Oper} {a : Act} {w : World} {Q : Exit → Act → World → Prop} (hgd : op.guard = none) (x y : Operand) (ho : op.op = .store 59 x y)
    (g k : Nat) (L : List Int) (v0 v1 v2 v3 v4 v5 : Int) (hx : a.eval x = .pointer (some ⟨g, k * 6, none⟩)) (hy : a.eval y = .agg #[.int .i64 v0, .int .i64 v1, .int .i64 v2, .int .i64 v3, .int .i64 v4, .int .i64 v5])
    (hF : Fig w g L) (hk : k * 6 + 5 < L.length)
    (h : ∀ w', Fig w' g (put6 L k v0 v1 v2 v3 v4 v5) → But g w w' → wpList Ybaf.prog ops Q rest (a.put op.dst undef) w') : wpList Ybaf.prog ops Q (op :: rest) a w :=
  wpList_store_mid hgd 59 x y ho g (k * 6) #[.int .i64 v0, .int .i64 v1, .int .i64 v2, .int .i64 v3, .int .i64 v4, .int .i64 v5] hx hy (hF.there hk) (by kernel_rfl) (by simp [Value.oneCell'])
    (h _ (hF.put6 k v0 v1 v2 v3 v4 v5) (But.setCells g _ _ _))

end Go.Proofs.YbulkcyqaFmt
