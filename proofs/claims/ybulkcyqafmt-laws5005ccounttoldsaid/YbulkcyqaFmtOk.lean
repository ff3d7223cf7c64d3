/-
  (*unlock.history).count (function 7): THE ACCEPTING WAYS: the holder has figures already, or has none; each kind.
-/
import Derived.Test.YbulkcyqaFmtCount
import Derived.Test.YbulkcyqaFmtFig
import Derived.OwnWalk
import Derived.Lib.SliceRun
namespace Go.Proofs.YbulkcyqaFmt
set_option linter.unusedVariables false
set_option linter.unusedSimpArgs false
open Go.RowKit Go.Extern.Stop Go.Stop Go.Extern

def added (c : Option Nat) (L : List Int) (k : Nat) (q : Int) : List Int :=
  match c with
  | none => L.set (k * 6) (wrap64 (L.getD (k * 6) 0 + q))
  | some c => (L.set (k * 6) (wrap64 (L.getD (k * 6) 0 + q))).set (k * 6 + c) (wrap64 ((L.set (k * 6) (wrap64 (L.getD (k * 6) 0 + q))).getD (k * 6 + c) 0 + q))

/-- The event in block b, the history's two cells in block H. -/
structure St (w : World) (b H M : Nat) (kd hol rs : ByteArray) (q : Int) (k : Nat) (d : Int) : Prop where
  e6 : w.cell? ⟨H, 6, none⟩ = some (.map (some M))
  e7 : w.cell? ⟨H, 7, none⟩ = some (.int .i64 d)
  v3 : w.cell? ⟨b, 3, none⟩ = some (.string kd)
  v4 : w.cell? ⟨b, 4, none⟩ = some (.string hol)
  v5 : w.cell? ⟨b, 5, none⟩ = some (.int .i64 q)
  v8 : w.cell? ⟨b, 8, none⟩ = some (.int .i64 k)
  v12 : w.cell? ⟨b, 12, none⟩ = some (.string rs)

theorem St.of_blocks {w w' : World} {b H M : Nat} {kd hol rs : ByteArray} {q : Int} {k : Nat} {d : Int} (h : St w b H M kd hol rs q k d) (hb : w'.heap[b]? = w.heap[b]?) (hH : w'.heap[H]? = w.heap[H]?) : St w' b H M kd hol rs q k d := by
  obtain ⟨e6, e7, v3, v4, v5, v8, v12⟩ := h
  exact ⟨by rw [World.cell?_of_block hH]; exact e6, by rw [World.cell?_of_block hH]; exact e7, by rw [World.cell?_of_block hb]; exact v3, by rw [World.cell?_of_block hb]; exact v4, by rw [World.cell?_of_block hb]; exact v5, by rw [World.cell?_of_block hb]; exact v8, by rw [World.cell?_of_block hb]; exact v12⟩

theorem st_step {w : World} {H M k m : Nat} {kd hol rs : ByteArray} {q y ds d : Int} (hH : H < w.heap.size) (hds : w.cell? ⟨H, 7, none⟩ = some (.int .i64 ds)) (hmp : w.cell? ⟨H, 6, none⟩ = some (.map (some M))) :
    St (((w.alloc (.cells (ev kd hol rs q k y) 67 (0, 0))).drewN m).setCell ⟨H, 7, none⟩ (.int .i64 d)) w.heap.size H M kd hol rs q k d := by
  unfold ev
  constructor <;> go_simp

theorem St.sets {w : World} {b H M g j m : Nat} {kd hol rs : ByteArray} {q : Int} {k : Nat} {d : Int} (h : St w b H M kd hol rs q k d) (hb : b ≠ g) (hH : H ≠ g) (u : Value) : St ((w.drewN m).setCell ⟨g, j, none⟩ u) b H M kd hol rs q k d :=
  h.of_blocks (Below.heap_setCell _ _ _ _ hb) (Below.heap_setCell _ _ _ _ hH)

theorem eql30 (w : World) (a : Option Addr) (n c : Nat) : (binOp .eql 30 (.slice a n c) (.slice none 0 0)).run Ybaf.prog w = .ok (.bool a.isNone) w := Lib.run_eql_slice_nil w 30 59 a n c 0 0 Ybaf.underlying30
theorem info59 : (Ybaf.prog.info? 59).map (fun i => (i.zero, i.size, i.bytes)) = some (some (.agg #[.int .i64 0, .int .i64 0, .int .i64 0, .int .i64 0, .int .i64 0, .int .i64 0]), 6, 48) := by kernel_rfl
attribute [local go_sem] eql30

set_option maxHeartbeats 1000000 in
theorem count_ok (kd hol rs : ByteArray) (c : Option Nat) (q y ds : Int) (k n H M gs Pb pc : Nat) (pa : Option Addr) (L : List Int) (w : World) (hs : hol.size ≤ maxLen) (hH : H < w.heap.size) (hHM : H ≠ M) (hHP : H ≠ Pb) (hPb : Pb < w.heap.size)
    (hds : w.cell? ⟨H, 7, none⟩ = some (.int .i64 ds)) (hfz : w.frozen? ⟨H, 7, none⟩ = false) (hmp : w.cell? ⟨H, 6, none⟩ = some (.map (some M))) (h0 : 0 ≤ ds) (h1 : ds ≤ 9223372036854775807) (hq : ¬ 9223372036854775807 - ds < q)
    (hP2 : w.cell? ⟨Pb, 2, none⟩ = some (.slice pa n pc))
    (hk : k < n) (hn : n ≤ 8) (hL : L.length = n * 6)
    (hkd : (kd = ⟨#[117, 110, 108, 111, 99, 107]⟩ ∧ c = some 1) ∨ (kd = ⟨#[100, 101, 102, 101, 114]⟩ ∧ c = some 4) ∨ (kd = ⟨#[102, 111, 114, 102, 101, 105, 116]⟩ ∧ rs = ⟨#[99, 111, 109, 112, 97, 110, 121]⟩ ∧ c = some 2) ∨ (kd = ⟨#[102, 111, 114, 102, 101, 105, 116]⟩ ∧ rs = ⟨#[114, 97, 116, 105, 110, 103]⟩ ∧ c = some 3) ∨ (kd = ⟨#[102, 111, 114, 102, 101, 105, 116]⟩ ∧ rs = ⟨#[]⟩ ∧ c = some 3) ∨ (kd = ⟨#[114, 101, 115, 117, 108, 116]⟩ ∧ c = none))
    (hst : (Mp1 w M hol (.slice (some ⟨gs, 0, none⟩) n n) ∧ Fig w gs L ∧ H ≠ gs ∧ M ≠ gs) ∨ (Mp0 w M ∧ L = List.replicate (n * 6) 0 ∧ gs = w.heap.size + 1)) :
    Calls Ybaf.prog 7 #[.pointer (some ⟨H, 0, none⟩), .pointer (some ⟨Pb, 0, none⟩), .agg (ev kd hol rs q k y)] w fun e w' => e = .returned .nilIface ∧ Out (fun i => i = H ∨ i = M ∨ i = gs) w w' ∧ w'.cell? ⟨H, 7, none⟩ = some (.int .i64 (wrap64 (ds + q))) ∧ w'.cell? ⟨H, 6, none⟩ = some (.map (some M)) ∧ Mp1 w' M hol (.slice (some ⟨gs, 0, none⟩) n n) ∧ Fig w' gs (added c L k q) := by
  have hM : M < w.heap.size := by rcases hst with h | h; · exact h.1.lt
                                  · exact h.1.lt
  have STEP : Hid (∀ m d, St (((w.alloc (.cells (ev kd hol rs q k y) 67 (0, 0))).drewN m).setCell ⟨H, 7, none⟩ (.int .i64 d)) w.heap.size H M kd hol rs q k d) := fun m d => st_step hH hds hmp
  have HST : Hid ((Mp1 w M hol (.slice (some ⟨gs, 0, none⟩) n n) ∧ Fig w gs L ∧ H ≠ gs ∧ M ≠ gs) ∨ (Mp0 w M ∧ L = List.replicate (n * 6) 0 ∧ gs = w.heap.size + 1)) := hst
  have HKD : Hid _ := hkd
  clear hst hkd
  unfold ev
  go_enter Ybaf.func7, Ybaf.ntmps7
  go_wp2
  go_quiet (fail)
  go_wp2
  go_region
  go_wp2
  generalize hw2 : World.setCell (World.drewN (World.alloc w _) _) _ _ = w2
  have HS2 : Hid (St w2 w.heap.size H M kd hol rs q k (wrap64 (ds + q))) := by
    rw [← hw2]
    exact STEP.out _ _
  have HO : Hid (Out (fun i => i = H ∨ i = M ∨ i = gs) w w2) := by
    rw [← hw2]
    exact (((Out.refl _ w).alloc _).drewN _).setCell (p := ⟨H, 7, none⟩) (Or.inl (Or.inl rfl)) _
  have HB : Hid (∀ i, i < w.heap.size → i ≠ H → w2.heap[i]? = w.heap[i]?) := by
    intro i hi hne
    rw [← hw2, Below.heap_setCell _ _ _ _ hne]
    exact Below.heap_alloc _ _ _ hi
  have hsz : w2.heap.size = w.heap.size + 1 := by
    rw [← hw2]
    simp [World.setCell]
  clear hw2 STEP
  obtain ⟨e6, e7, v3, v4, v5, v8, v12⟩ := HS2.out
  have hp2 : w2.cell? ⟨Pb, 2, none⟩ = some (.slice pa n pc) := by rw [World.cell?_of_block (HB.out Pb hPb (Ne.symm hHP))]; exact hP2
  clear hds hfz hmp hP2
  obtain ⟨i0, hi, hz0, hz1, hz2⟩ := info_parts info59
  rcases HST.out with ⟨m1, m2, m3, m4⟩ | ⟨m1, m2, m3⟩
  focus
    have HL : ∀ m, (Instr.lookup 49 (.map (some M)) (.string hol) false).run Ybaf.prog (w2.drewN m) = .ok (.slice (some ⟨gs, 0, none⟩) n n) (w2.drewN m) := fun m => (m1.of_block (w' := w2.drewN m) (HB.out _ hM (Ne.symm hHM))).look hs
    have HF : Hid (Fig w2 gs L) := m2.of_block (HB.out _ m2.lt (Ne.symm m3))
    have HM1 : Hid (Mp1 w2 M hol (.slice (some ⟨gs, 0, none⟩) n n)) := m1.of_block (HB.out _ hM (Ne.symm hHM))
    have hne : w.heap.size ≠ gs := by have := m2.lt; omega
    clear m1 m2
    go_quiet (fail)
    clear HL
    go_wp2
    generalize hw3 : World.drewN w2 _ = w3
    have S3 : Hid (St w3 w.heap.size H M kd hol rs q k (wrap64 (ds + q))) := by
      rw [← hw3]
      exact HS2.out.of_blocks rfl rfl
    have O3 : Hid (Out (fun i => i = H ∨ i = M ∨ i = gs) w w3) := by
      rw [← hw3]
      exact HO.out.drewN _
    have F3 : Hid (Fig w3 gs L) := by
      rw [← hw3]
      exact HF.out.of_block rfl
    have M3 : Hid (Mp1 w3 M hol (.slice (some ⟨gs, 0, none⟩) n n)) := by
      rw [← hw3]
      exact HM1.out.of_block rfl
    clear hw3 HM1 HF HO HB hsz HS2
    clear e6 e7 v3 v4 v5 v8 v12 hp2
    obtain ⟨e6, e7, v3, v4, v5, v8, v12⟩ := S3.out
  rotate_left
  focus
    have HL : ∀ m, (Instr.lookup 49 (.map (some M)) (.string hol) false).run Ybaf.prog (w2.drewN m) = .ok (.slice none 0 0) (w2.drewN m) := fun m => (m1.of_block (w' := w2.drewN m) (HB.out _ hM (Ne.symm hHM))).look hs
    have HM1 : Hid (Mp0 w2 M) := m1.of_block (HB.out _ hM (Ne.symm hHM))
    have HLe : Hid (L = List.replicate (n * 6) 0) := m2
    subst m3
    clear m1 m2
    go_quiet (fail)
    clear HL
    go_wp2_with (at_make; refine wpList_make_full _ rfl (.tmp 45) (.tmp 45) 30 rfl 0 59 i0 (.agg #[.int .i64 0, .int .i64 0, .int .i64 0, .int .i64 0, .int .i64 0, .int .i64 0]) 6 Ybaf.underlying30 hi hz0 hz1 .i64 .i64 _ _ n rfl rfl rfl rfl (by rw [hz2]; omega) (by unfold maxLen; omega) (Nat.zero_le _) ?_)
    intro w3a hown hgrow
    have F3a : Hid (Fig w3a (w.heap.size + 1) L) := by
      have h := fig_made hown
      rw [HLe.out]
      exact h
    have O3a : Hid (Out (fun i => i = H ∨ i = M ∨ i = w.heap.size + 1) w w3a) := (HO.out.drewN _).grown hgrow (fun k hk => by cases hk)
    have B3 : Hid (∀ i, i < w.heap.size + 1 → w3a.heap[i]? = w2.heap[i]?) := fun i hi' => hgrow.block i (by rw [← hsz] at hi'; exact hi') (by simp)
    have S3a : Hid (St w3a w.heap.size H M kd hol rs q k (wrap64 (ds + q))) := HS2.out.of_blocks (B3.out _ (by omega)) (B3.out _ (by omega))
    have M3a : Hid (Mp0 w3a M) := HM1.out.of_block (B3.out _ (by omega))
    have Z3a : Hid (w.heap.size + 1 < w3a.heap.size) := F3a.out.lt
    obtain ⟨w3, HU, M3', G3'⟩ := (M3a.out.of_block (w' := w3a.drew) rfl).store hs (.slice (some ⟨w.heap.size + 1, 0, none⟩) n n)
    have M3 : Hid (Mp1 w3 M hol (.slice (some ⟨w.heap.size + 1, 0, none⟩) n n)) := M3'
    have G3 : Hid (w3a.drew.grownBy w3 (some M)) := G3'
    clear M3' G3' hown hgrow
    clear e6 e7 v3 v4 v5 v8 v12 hp2 B3 HO HB HS2
    obtain ⟨e6, e7, v3, v4, v5, v8, v12⟩ := S3a.out
    go_wp2
    go_region
    clear HU
    have O3 : Hid (Out (fun i => i = H ∨ i = M ∨ i = w.heap.size + 1) w w3) := (O3a.out.drewN 1).grown G3.out (fun k hk => by cases hk; exact Or.inl (Or.inr (Or.inl rfl)))
    have F3 : Hid (Fig w3 (w.heap.size + 1) L) := F3a.out.of_block (G3.out.block _ Z3a.out (by intro h; cases h; omega))
    have S3 : Hid (St w3 w.heap.size H M kd hol rs q k (wrap64 (ds + q))) :=
      S3a.out.of_blocks (G3.out.block _ (by have := Z3a.out; show _ < w3a.heap.size; omega) (by intro h; cases h; omega)) (G3.out.block _ (by have := Z3a.out; show _ < w3a.heap.size; omega) (by intro h; cases h; exact hHM rfl))
    have hne : w.heap.size ≠ w.heap.size + 1 := by omega
    have m3 : H ≠ w.heap.size + 1 := by omega
    have m4 : M ≠ w.heap.size + 1 := by omega
    clear G3 F3a O3a S3a M3a Z3a hsz HM1 HLe
    clear e6 e7 v3 v4 v5 v8 v12
    obtain ⟨e6, e7, v3, v4, v5, v8, v12⟩ := S3.out
    clear w3a
    go_wp2
    generalize hgs : w.heap.size + 1 = gs at *
    have Hgs : Hid (w.heap.size + 1 = gs) := hgs
    clear hgs
  all_goals
    have c0 : w3.cell? ⟨gs, k * 6, none⟩ = some (.int .i64 (L.getD (k * 6) 0)) := F3.out.cell (by omega)
    have z0 : w3.frozen? ⟨gs, k * 6, none⟩ = false := F3.out.frozen _
    generalize hf0 : L.getD (k * 6) 0 = f0 at c0
    have Hf0 : Hid (L.getD (k * 6) 0 = f0) := hf0
    clear hf0
    go_region
    generalize hw4 : World.drew (World.setCell w3 _ _) = w4
    have S4 : Hid (St w4 w.heap.size H M kd hol rs q k (wrap64 (ds + q))) := by
      rw [← hw4]
      exact S3.out.of_blocks (Below.heap_setCell _ _ _ _ hne) (Below.heap_setCell _ _ _ _ m3)
    have O4 : Hid (Out (fun i => i = H ∨ i = M ∨ i = gs) w w4) := by
      rw [← hw4]
      exact (O3.out.setCell (p := ⟨gs, k * 6, none⟩) (Or.inl (Or.inr (Or.inr rfl))) _).drewN 1
    have M4 : Hid (Mp1 w4 M hol (.slice (some ⟨gs, 0, none⟩) n n)) := by
      rw [← hw4]
      exact M3.out.of_block (Below.heap_setCell _ _ _ _ m4)
    have F4 : Hid (Fig w4 gs (L.set (k * 6) (wrap64 (L.getD (k * 6) 0 + q)))) := by
      rw [← hw4, Hf0.out]
      exact (F3.out.set (k * 6) _).of_block rfl
    clear hw4 S3 O3 M3 F3
    clear e6 e7 v3 v4 v5 v8 v12 c0 z0 w3
    obtain ⟨e6, e7, v3, v4, v5, v8, v12⟩ := S4.out
    have HL4 : Hid (∀ j, k * 6 + j < n * 6 → w4.cell? ⟨gs, k * 6 + j, none⟩ = some (.int .i64 ((L.set (k * 6) (wrap64 (L.getD (k * 6) 0 + q))).getD (k * 6 + j) 0)) ∧ w4.frozen? ⟨gs, k * 6 + j, none⟩ = false) := fun j hj => ⟨F4.out.cell (by rw [List.length_set]; omega), F4.out.frozen _⟩
    have FIN : Hid (∀ j x, Out (fun i => i = H ∨ i = M ∨ i = gs) w ((w4.setCell ⟨gs, k * 6 + j, none⟩ (.int .i64 x)).drew) ∧ ((w4.setCell ⟨gs, k * 6 + j, none⟩ (.int .i64 x)).drew).cell? ⟨H, 7, none⟩ = some (.int .i64 (wrap64 (ds + q))) ∧ ((w4.setCell ⟨gs, k * 6 + j, none⟩ (.int .i64 x)).drew).cell? ⟨H, 6, none⟩ = some (.map (some M)) ∧ Mp1 ((w4.setCell ⟨gs, k * 6 + j, none⟩ (.int .i64 x)).drew) M hol (.slice (some ⟨gs, 0, none⟩) n n) ∧ Fig ((w4.setCell ⟨gs, k * 6 + j, none⟩ (.int .i64 x)).drew) gs ((L.set (k * 6) (wrap64 (L.getD (k * 6) 0 + q))).set (k * 6 + j) x)) := by
      intro j x
      have hS : St ((w4.setCell ⟨gs, k * 6 + j, none⟩ (.int .i64 x)).drew) w.heap.size H M kd hol rs q k (wrap64 (ds + q)) := S4.out.of_blocks (Below.heap_setCell _ _ _ _ hne) (Below.heap_setCell _ _ _ _ m3)
      exact ⟨(O4.out.setCell (p := ⟨gs, k * 6 + j, none⟩) (Or.inl (Or.inr (Or.inr rfl))) _).drewN 1, hS.e7, hS.e6, M4.out.of_block (Below.heap_setCell _ _ _ _ m4), (F4.out.set (k * 6 + j) _).of_block rfl⟩
    rcases HKD.out with ⟨rfl, rfl⟩ | ⟨rfl, rfl⟩ | ⟨rfl, rfl, rfl⟩ | ⟨rfl, rfl, rfl⟩ | ⟨rfl, rfl, rfl⟩ | ⟨rfl, rfl⟩
  · obtain ⟨c1, z1⟩ := HL4.out 1 (by omega)
    generalize hf1 : (L.set (k * 6) (wrap64 (L.getD (k * 6) 0 + q))).getD (k * 6 + 1) 0 = f1 at c1
    have Hf1 : Hid ((L.set (k * 6) (wrap64 (L.getD (k * 6) 0 + q))).getD (k * 6 + 1) 0 = f1) := hf1
    clear hf1
    go_wp2
    go_region
    go_wp2
    go_ret
    have hgs := Hgs.out
    subst hgs
    obtain ⟨r1, r2, r3, r4, r5⟩ := FIN.out 1 (wrap64 (f1 + q))
    exact ⟨rfl, r1, r2, r3, r4, by rw [← Hf1.out] at r5 ⊢; exact r5⟩
  · obtain ⟨c1, z1⟩ := HL4.out 4 (by omega)
    generalize hf1 : (L.set (k * 6) (wrap64 (L.getD (k * 6) 0 + q))).getD (k * 6 + 4) 0 = f1 at c1
    have Hf1 : Hid ((L.set (k * 6) (wrap64 (L.getD (k * 6) 0 + q))).getD (k * 6 + 4) 0 = f1) := hf1
    clear hf1
    go_wp2
    go_region
    go_wp2
    go_ret
    have hgs := Hgs.out
    subst hgs
    obtain ⟨r1, r2, r3, r4, r5⟩ := FIN.out 4 (wrap64 (f1 + q))
    exact ⟨rfl, r1, r2, r3, r4, by rw [← Hf1.out] at r5 ⊢; exact r5⟩
  · obtain ⟨c1, z1⟩ := HL4.out 2 (by omega)
    generalize hf1 : (L.set (k * 6) (wrap64 (L.getD (k * 6) 0 + q))).getD (k * 6 + 2) 0 = f1 at c1
    have Hf1 : Hid ((L.set (k * 6) (wrap64 (L.getD (k * 6) 0 + q))).getD (k * 6 + 2) 0 = f1) := hf1
    clear hf1
    go_wp2
    go_region
    go_wp2
    go_ret
    have hgs := Hgs.out
    subst hgs
    obtain ⟨r1, r2, r3, r4, r5⟩ := FIN.out 2 (wrap64 (f1 + q))
    exact ⟨rfl, r1, r2, r3, r4, by rw [← Hf1.out] at r5 ⊢; exact r5⟩
  · obtain ⟨c1, z1⟩ := HL4.out 3 (by omega)
    generalize hf1 : (L.set (k * 6) (wrap64 (L.getD (k * 6) 0 + q))).getD (k * 6 + 3) 0 = f1 at c1
    have Hf1 : Hid ((L.set (k * 6) (wrap64 (L.getD (k * 6) 0 + q))).getD (k * 6 + 3) 0 = f1) := hf1
    clear hf1
    go_wp2
    go_region
    go_wp2
    go_ret
    have hgs := Hgs.out
    subst hgs
    obtain ⟨r1, r2, r3, r4, r5⟩ := FIN.out 3 (wrap64 (f1 + q))
    exact ⟨rfl, r1, r2, r3, r4, by rw [← Hf1.out] at r5 ⊢; exact r5⟩
  · obtain ⟨c1, z1⟩ := HL4.out 3 (by omega)
    generalize hf1 : (L.set (k * 6) (wrap64 (L.getD (k * 6) 0 + q))).getD (k * 6 + 3) 0 = f1 at c1
    have Hf1 : Hid ((L.set (k * 6) (wrap64 (L.getD (k * 6) 0 + q))).getD (k * 6 + 3) 0 = f1) := hf1
    clear hf1
    go_wp2
    go_region
    go_wp2
    go_ret
    have hgs := Hgs.out
    subst hgs
    obtain ⟨r1, r2, r3, r4, r5⟩ := FIN.out 3 (wrap64 (f1 + q))
    exact ⟨rfl, r1, r2, r3, r4, by rw [← Hf1.out] at r5 ⊢; exact r5⟩
  · go_wp2
    go_ret
    have hgs := Hgs.out
    subst hgs
    exact ⟨rfl, O4.out, e7, e6, M4.out, F4.out⟩
  · obtain ⟨c1, z1⟩ := HL4.out 1 (by omega)
    generalize hf1 : (L.set (k * 6) (wrap64 (L.getD (k * 6) 0 + q))).getD (k * 6 + 1) 0 = f1 at c1
    have Hf1 : Hid ((L.set (k * 6) (wrap64 (L.getD (k * 6) 0 + q))).getD (k * 6 + 1) 0 = f1) := hf1
    clear hf1
    go_wp2
    go_region
    go_wp2
    go_ret
    obtain ⟨r1, r2, r3, r4, r5⟩ := FIN.out 1 (wrap64 (f1 + q))
    exact ⟨rfl, r1, r2, r3, r4, by rw [← Hf1.out] at r5 ⊢; exact r5⟩
  · obtain ⟨c1, z1⟩ := HL4.out 4 (by omega)
    generalize hf1 : (L.set (k * 6) (wrap64 (L.getD (k * 6) 0 + q))).getD (k * 6 + 4) 0 = f1 at c1
    have Hf1 : Hid ((L.set (k * 6) (wrap64 (L.getD (k * 6) 0 + q))).getD (k * 6 + 4) 0 = f1) := hf1
    clear hf1
    go_wp2
    go_region
    go_wp2
    go_ret
    obtain ⟨r1, r2, r3, r4, r5⟩ := FIN.out 4 (wrap64 (f1 + q))
    exact ⟨rfl, r1, r2, r3, r4, by rw [← Hf1.out] at r5 ⊢; exact r5⟩
  · obtain ⟨c1, z1⟩ := HL4.out 2 (by omega)
    generalize hf1 : (L.set (k * 6) (wrap64 (L.getD (k * 6) 0 + q))).getD (k * 6 + 2) 0 = f1 at c1
    have Hf1 : Hid ((L.set (k * 6) (wrap64 (L.getD (k * 6) 0 + q))).getD (k * 6 + 2) 0 = f1) := hf1
    clear hf1
    go_wp2
    go_region
    go_wp2
    go_ret
    obtain ⟨r1, r2, r3, r4, r5⟩ := FIN.out 2 (wrap64 (f1 + q))
    exact ⟨rfl, r1, r2, r3, r4, by rw [← Hf1.out] at r5 ⊢; exact r5⟩
  · obtain ⟨c1, z1⟩ := HL4.out 3 (by omega)
    generalize hf1 : (L.set (k * 6) (wrap64 (L.getD (k * 6) 0 + q))).getD (k * 6 + 3) 0 = f1 at c1
    have Hf1 : Hid ((L.set (k * 6) (wrap64 (L.getD (k * 6) 0 + q))).getD (k * 6 + 3) 0 = f1) := hf1
    clear hf1
    go_wp2
    go_region
    go_wp2
    go_ret
    obtain ⟨r1, r2, r3, r4, r5⟩ := FIN.out 3 (wrap64 (f1 + q))
    exact ⟨rfl, r1, r2, r3, r4, by rw [← Hf1.out] at r5 ⊢; exact r5⟩
  · obtain ⟨c1, z1⟩ := HL4.out 3 (by omega)
    generalize hf1 : (L.set (k * 6) (wrap64 (L.getD (k * 6) 0 + q))).getD (k * 6 + 3) 0 = f1 at c1
    have Hf1 : Hid ((L.set (k * 6) (wrap64 (L.getD (k * 6) 0 + q))).getD (k * 6 + 3) 0 = f1) := hf1
    clear hf1
    go_wp2
    go_region
    go_wp2
    go_ret
    obtain ⟨r1, r2, r3, r4, r5⟩ := FIN.out 3 (wrap64 (f1 + q))
    exact ⟨rfl, r1, r2, r3, r4, by rw [← Hf1.out] at r5 ⊢; exact r5⟩
  · go_wp2
    go_ret
    exact ⟨rfl, O4.out, e7, e6, M4.out, F4.out⟩

end Go.Proofs.YbulkcyqaFmt
