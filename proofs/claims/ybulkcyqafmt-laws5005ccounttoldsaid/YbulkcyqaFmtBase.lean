/-
  THE LAW's OWN SMALL THINGS: what it reads of the case, of the plan, of the history; the closed facts of its comparisons.
-/
import Derived.Test.YbulkcyqaFmtOk
import Derived.LaidEqlPtr
import Derived.Laws.StructEq
import Derived.Stop.IfaceNil
import Derived.IntWalk
namespace Go.Proofs.YbulkcyqaFmt
set_option linter.unusedVariables false
set_option linter.unusedSimpArgs false
open Go.RowKit Go.Extern.Stop Go.Stop Go.Extern

def kdOf : Nat → ByteArray
  | 0 => ⟨#[117, 110, 108, 111, 99, 107]⟩
  | 1 => ⟨#[100, 101, 102, 101, 114]⟩
  | 2 => ⟨#[102, 111, 114, 102, 101, 105, 116]⟩
  | _ => ⟨#[114, 101, 115, 117, 108, 116]⟩
def rsOf : Nat → ByteArray
  | 0 => ⟨#[99, 111, 109, 112, 97, 110, 121]⟩
  | 1 => ⟨#[114, 97, 116, 105, 110, 103]⟩
  | _ => ⟨#[]⟩

theorem info81' : ((Ybaf.prog.info? 81).map fun i => (match i.zero with | some (.agg _) => true | _ => false) && decide (i.bytes ≤ 10000)) = some true := by kernel_rfl
theorem info81 : ∃ i z, Ybaf.prog.info? 81 = some i ∧ i.zero = some (.agg z) ∧ i.bytes ≤ 10000 := by
  have h := info81'
  cases hi : Ybaf.prog.info? 81 with
  | none => rw [hi] at h; cases h
  | some i =>
    rw [hi] at h
    simp only [Option.map_some, Option.some.injEq, Bool.and_eq_true, decide_eq_true_eq] at h
    obtain ⟨h1, h2⟩ := h
    split at h1
    · rename_i z hz
      exact ⟨i, z, rfl, hz, h2⟩
    · cases h1

/-- What is read of the case in block b. -/
structure Bx (w : World) (b : Nat) (q : Int) (hol : ByteArray) (pr : Bool) (y : Int) : Prop where
  b1 : w.cell? ⟨b, 1, none⟩ = some (.int .i64 q)
  b2 : w.cell? ⟨b, 2, none⟩ = some (.string hol)
  b7 : w.cell? ⟨b, 7, none⟩ = some (.bool pr)
  b8 : w.cell? ⟨b, 8, none⟩ = some (.int .i64 y)
theorem Bx.of_block {w w' : World} {b : Nat} {q : Int} {hol : ByteArray} {pr : Bool} {y : Int} (h : Bx w b q hol pr y) (hb : w'.heap[b]? = w.heap[b]?) : Bx w' b q hol pr y := by
  obtain ⟨b1, b2, b7, b8⟩ := h
  exact ⟨by rw [World.cell?_of_block hb]; exact b1, by rw [World.cell?_of_block hb]; exact b2, by rw [World.cell?_of_block hb]; exact b7, by rw [World.cell?_of_block hb]; exact b8⟩

/-- The plan's portions in block Pb, the history in block H. -/
structure Hp (w : World) (H M Pb : Nat) (pa : Option Addr) (n : Nat) (ds : Int) : Prop where
  h6 : w.cell? ⟨H, 6, none⟩ = some (.map (some M))
  h7 : w.cell? ⟨H, 7, none⟩ = some (.int .i64 ds)
  hz : w.frozen? ⟨H, 7, none⟩ = false
  p2 : w.cell? ⟨Pb, 2, none⟩ = some (.slice pa n n)
theorem Hp.of_blocks {w w' : World} {H M Pb : Nat} {pa : Option Addr} {n : Nat} {ds : Int} (h : Hp w H M Pb pa n ds) (hb : w'.heap[H]? = w.heap[H]?) (hp : w'.heap[Pb]? = w.heap[Pb]?) : Hp w' H M Pb pa n ds := by
  obtain ⟨b1, b2, b7, b8⟩ := h
  exact ⟨by rw [World.cell?_of_block hb]; exact b1, by rw [World.cell?_of_block hb]; exact b2, by rw [World.frozen?_of_block hb]; exact b7, by rw [World.cell?_of_block hp]; exact b8⟩

theorem mp0_of {w : World} {M : Nat} (h : w.heap[M]? = some (.map #[] 0)) : Mp0 w M := by
  obtain ⟨es, c, hb, F, hs, hD⟩ := World.ownsMap_made w Ybaf.prog 9 Rv
  rw [heap_alloc_new] at hb
  cases hb
  exact ⟨#[], 0, h, F, hs, hD⟩

/-- The case, as the law gets it. -/
def cs (sh : Int) (q : Int) (hol : ByteArray) (np po ki re : Nat) (pr : Bool) (y : Int) : Array Value :=
  #[.int .u64 sh, .int .i64 q, .string hol, .int .u8 np, .int .u8 po, .int .u8 ki, .int .u8 re, .bool pr, .int .i64 y]


theorem eq59 (a b c d e f : Int) (w : World) : (Op.equalIn 10000 59 (.agg #[.int .i64 a, .int .i64 b, .int .i64 c, .int .i64 d, .int .i64 e, .int .i64 f]) (.agg #[.int .i64 a, .int .i64 b, .int .i64 c, .int .i64 d, .int .i64 e, .int .i64 f])).run Ybaf.prog w = .ok true w := by
  have u2 := Ybaf.underlying2
  have hS : Ybaf.prog.underlying 59 = some (.struct (Ybaf.prog.fieldsOf 59)) := by kernel_rfl
  have hp : Ybaf.prog.stoodInHeld 59 = false := by kernel_rfl
  rw [show (10000 : Nat) = 9999 + 1 from rfl, run_equalIn_agg w 9999 59 _ _ hS hp]
  simp only [Program.fieldsOf, Ybaf.underlying59]
  go_simp

theorem neq59 (a b c d e f : Int) (w : World) : (binOp .neq 59 (.agg #[.int .i64 a, .int .i64 b, .int .i64 c, .int .i64 d, .int .i64 e, .int .i64 f]) (.agg #[.int .i64 a, .int .i64 b, .int .i64 c, .int .i64 d, .int .i64 e, .int .i64 f])).run Ybaf.prog w = .ok (.bool false) w := by
  rw [run_neq_struct, eq59]
  rfl

theorem neq71 (a : Addr) (w : World) : (binOp .neq 71 (.pointer (some a)) (.pointer (some a))).run Ybaf.prog w = .ok (.bool false) w := by
  obtain ⟨j, hj, _⟩ := info_parts info59
  have h : ∀ d : Nat, (Op.equalIn (d + 1) 71 (.pointer (some a)) (.pointer (some a))).run Ybaf.prog w = .ok true w := fun d => by
    simp [Op.equalIn, run_underlying Ybaf.underlying71, sizeOf, typeInfo, hj, run_sameAddr_same]
  simp only [binOp]
  simp [Op.equal, Op.maxDepth, h 9999]

theorem iface69 : Ybaf.prog.isIface 69 = true := by kernel_rfl
theorem eql69 (u : TypeId) (x : Value) (w : World) : (binOp .eql 69 (.iface u x) .nilIface).run Ybaf.prog w = .ok (.bool false) w := run_eql_iface_nil w 69 iface69 u x
theorem neq69 (w : World) : (binOp .neq 69 .nilIface .nilIface).run Ybaf.prog w = .ok (.bool false) w := run_neq_nil_nil_at w 69 iface69

theorem load6 {w : World} {g k : Nat} {L : List Int} (h : Fig w g L) (hk : k * 6 + 5 < L.length) : (Instr.loadAt 59 (.pointer (some ⟨g, k * 6, none⟩))).run Ybaf.prog w = .ok (.agg #[.int .i64 (L.getD (k * 6) 0), .int .i64 (L.getD (k * 6 + 1) 0), .int .i64 (L.getD (k * 6 + 2) 0), .int .i64 (L.getD (k * 6 + 3) 0), .int .i64 (L.getD (k * 6 + 4) 0), .int .i64 (L.getD (k * 6 + 5) 0)]) w :=
  run_loadAt_mid w g (k * 6) 59 (six L k) _ (h.six hk) Ybaf.underlying59 rfl (by kernel_rfl)

theorem store6 {w : World} {g k : Nat} {L : List Int} (h : Fig w g L) (hk : k * 6 + 5 < L.length) (a b c d e f : Int) : (Instr.storeAt 59 (.pointer (some ⟨g, k * 6, none⟩)) (.agg #[.int .i64 a, .int .i64 b, .int .i64 c, .int .i64 d, .int .i64 e, .int .i64 f])).run Ybaf.prog w = .ok () (w.setCells g (k * 6) [.int .i64 a, .int .i64 b, .int .i64 c, .int .i64 d, .int .i64 e, .int .i64 f]) :=
  run_storeAt_mid w g (k * 6) 59 #[.int .i64 a, .int .i64 b, .int .i64 c, .int .i64 d, .int .i64 e, .int .i64 f] (h.there hk) (by kernel_rfl) (by simp [Value.oneCell'])

/-- What the law lays over the figures that it wants, is what count has added. -/
theorem put6_added (c : Option Nat) (L : List Int) (k : Nat) (q : Int) (hc : c = none ∨ c = some 1 ∨ c = some 2 ∨ c = some 3 ∨ c = some 4) (hk : k * 6 + 5 < L.length) :
    put6 L k (wrap64 (L.getD (k * 6) 0 + q)) (if c = some 1 then wrap64 (L.getD (k * 6 + 1) 0 + q) else L.getD (k * 6 + 1) 0) (if c = some 2 then wrap64 (L.getD (k * 6 + 2) 0 + q) else L.getD (k * 6 + 2) 0) (if c = some 3 then wrap64 (L.getD (k * 6 + 3) 0 + q) else L.getD (k * 6 + 3) 0) (if c = some 4 then wrap64 (L.getD (k * 6 + 4) 0 + q) else L.getD (k * 6 + 4) 0) (L.getD (k * 6 + 5) 0) = added c L k q := by
  have hg : ∀ j x, j ≠ k * 6 → (L.set (k * 6) x).getD j 0 = L.getD j 0 := fun j x hj => by
    simp [List.getElem?_set, Ne.symm hj]
  rcases hc with rfl | rfl | rfl | rfl | rfl
  all_goals
    simp only [added, put6, reduceCtorEq, Option.some.injEq, if_true, if_false, Nat.reduceEqDiff]
    try rw [hg _ _ (by omega)]
    apply List.ext_getElem?
    intro j
    simp only [List.getElem?_set, List.length_set]
    by_cases h0 : k * 6 = j
    · subst h0; simp
    by_cases h1 : k * 6 + 1 = j
    · subst h1; simp [List.getElem?_eq_getElem (show k * 6 + 1 < L.length by omega), show k * 6 + 1 < L.length by omega]
    by_cases h2 : k * 6 + 2 = j
    · subst h2; simp [List.getElem?_eq_getElem (show k * 6 + 2 < L.length by omega), show k * 6 + 2 < L.length by omega]
    by_cases h3 : k * 6 + 3 = j
    · subst h3; simp [List.getElem?_eq_getElem (show k * 6 + 3 < L.length by omega), show k * 6 + 3 < L.length by omega]
    by_cases h4 : k * 6 + 4 = j
    · subst h4; simp [List.getElem?_eq_getElem (show k * 6 + 4 < L.length by omega), show k * 6 + 4 < L.length by omega]
    by_cases h5 : k * 6 + 5 = j
    · subst h5; simp [List.getElem?_eq_getElem (show k * 6 + 5 < L.length by omega), show k * 6 + 5 < L.length by omega]
    simp [h0, h1, h2, h3, h4, h5]

end Go.Proofs.YbulkcyqaFmt
