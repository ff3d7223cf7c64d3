/-
  THE LAW (function 5), no figures before, and count accepts.
-/
import Derived.Test.YbulkcyqaFmtSix
namespace Go.Proofs.YbulkcyqaFmt
set_option linter.unusedVariables false
set_option linter.unusedSimpArgs false
open Go.RowKit Go.Extern.Stop Go.Stop Go.Extern
attribute [local go_sem] eql30 eql69 neq69 neq59 neq71

set_option maxHeartbeats 4000000 in
set_option maxRecDepth 100000 in
theorem law_fa (F : Interp) (sh q y : Int) (hol : ByteArray) (np po ki re : Nat) (pa : Option Addr) (len cap : Nat) (w : World) (hF : F.answers w.tape) (hs : hol.size ≤ maxLen)
    (s0 : 0 ≤ sh) (s1 : sh ≤ 18446744073709551615) (q0 : -9223372036854775808 ≤ q) (q1 : q ≤ 9223372036854775807) (n1 : np ≤ 255) (p1 : po ≤ 255) (k1 : ki ≤ 255) (r1 : re ≤ 255)
    (hq : ¬ 9223372036854775807 - sh / 2 < q) :
    Calls Ybaf.prog 5 #[.agg (cs sh q hol np po ki re false y), .slice pa len cap] w fun e w' => e = .returned (.bool true) ∧ Below w.heap.size w w' := by
  unfold cs
  obtain ⟨n, hn⟩ : ∃ n : Nat, 1 + (np : Int) % 8 = (n : Int) := ⟨1 + np % 8, by omega⟩
  obtain ⟨k, hk⟩ : ∃ k : Nat, (po : Int) % (n : Int) = (k : Int) := ⟨po % n, by omega⟩
  have n0 : 1 ≤ n := by omega
  have n8 : n ≤ 8 := by omega
  have kn : k < n := by
    have := Int.emod_lt_of_pos (po : Int) (show (0 : Int) < (n : Int) by omega)
    omega
  obtain ⟨kd, hkd, HKD⟩ : ∃ kd, [Value.string ⟨#[117, 110, 108, 111, 99, 107]⟩, Value.string ⟨#[100, 101, 102, 101, 114]⟩, Value.string ⟨#[102, 111, 114, 102, 101, 105, 116]⟩, Value.string ⟨#[114, 101, 115, 117, 108, 116]⟩][ki % 4]? = some (Value.string kd) ∧ Hid (kd = kdOf (ki % 4)) := by
    have : ki % 4 < 4 := Nat.mod_lt _ (by decide)
    refine ⟨kdOf (ki % 4), ?_, rfl⟩
    generalize ki % 4 = i at *
    match i, this with
    | 0, _ => rfl
    | 1, _ => rfl
    | 2, _ => rfl
    | 3, _ => rfl
  obtain ⟨rs, hrs, HRS⟩ : ∃ rs, [Value.string ⟨#[99, 111, 109, 112, 97, 110, 121]⟩, Value.string ⟨#[114, 97, 116, 105, 110, 103]⟩, Value.string ⟨#[]⟩][re % 3]? = some (Value.string rs) ∧ Hid (rs = rsOf (re % 3)) := by
    have : re % 3 < 3 := Nat.mod_lt _ (by decide)
    refine ⟨rsOf (re % 3), ?_, rfl⟩
    generalize re % 3 = i at *
    match i, this with
    | 0, _ => rfl
    | 1, _ => rfl
    | 2, _ => rfl
  have HQ : Hid (¬ 9223372036854775807 - sh / 2 < q) := hq
  clear hq
  obtain ⟨i1, z1, hi1, hz11, hz12⟩ := info81
  obtain ⟨i0, hi0, hz01, hz02, hz03⟩ := info_parts info59
  have hmm := @run_makeMap Ybaf.prog
  go_enter Ybaf.func5, Ybaf.ntmps5
  go_wp2_with (at_make; refine wpList_make_full _ rfl (.tmp 53) (.tmp 53) 37 rfl 0 81 i1 (.agg z1) i1.size Ybaf.underlying37 hi1 hz11 rfl .i64 .i64 _ _ n rfl rfl rfl rfl (by have := Nat.mul_le_mul hz12 n8; omega) (by unfold maxLen; omega) (Nat.zero_le _) ?_)
  intro wa hown hgrow
  have Ba : Hid (Out (fun _ => False) w wa) := ((((Out.refl _ w).alloc _).alloc _).alloc _).grown hgrow (fun k hk => by cases hk)
  have Bxa : Hid (Bx wa w.heap.size q hol false y) := by
    have hb : wa.heap[w.heap.size]? = (((w.alloc (.cells (cs sh q hol np po ki re false y) 29 (0, 0))))).heap[w.heap.size]? := by
      rw [hgrow.block _ (by simp; omega) (by simp), Below.heap_alloc _ _ _ (by simp; omega), Below.heap_alloc _ _ _ (by simp)]
      rfl
    refine Bx.of_block ?_ hb
    unfold cs
    constructor <;> go_simp
  have hza : w.heap.size + 3 < wa.heap.size := by
    obtain ⟨_, h⟩ := hown
    rcases h with ⟨h, _⟩ | ⟨g, c', cur, hv, _, hg, _⟩
    · cases h
    · cases hv
      exact (Array.getElem?_eq_some_iff.1 hg).1
  clear hown hgrow hi1 hz11 hz12 hkd hrs
  obtain ⟨b1, b2, b7, b8⟩ := Bxa.out
  go_wp2_with (at_make; refine wpList_make_full _ rfl (.tmp 61) (.tmp 61) 30 rfl 0 59 i0 (.agg #[.int .i64 0, .int .i64 0, .int .i64 0, .int .i64 0, .int .i64 0, .int .i64 0]) 6 Ybaf.underlying30 hi0 hz01 hz02 .i64 .i64 _ _ n rfl rfl rfl rfl (by rw [hz03]; omega) (by unfold maxLen; omega) (Nat.zero_le _) ?_)
  intro wb hown hgrow
  have Bb : Hid (Out (fun _ => False) w wb) := (((Ba.out.alloc _).alloc _).alloc _).grown hgrow (fun k hk => by cases hk)
  have hzb : wa.heap.size + 3 < wb.heap.size := by
    have := (fig_made hown).lt
    simpa using this
  have Fb : Hid (Fig wb (wa.heap.size + 3) (List.replicate (n * 6) 0)) := fig_made hown
  have Bxb : Hid (Bx wb w.heap.size q hol false y) := Bxa.out.of_block (by
    rw [hgrow.block _ (by simp; omega) (by simp), Below.heap_alloc _ _ _ (by simp; omega), Below.heap_alloc _ _ _ (by simp; omega), Below.heap_alloc _ _ _ (by omega)])
  have Hpb : Hid (Hp wb (wa.heap.size + 2) (wa.heap.size + 1) wa.heap.size (some ⟨w.heap.size + 3, 0, none⟩) n (sh / 2)) := by
    have hb : ∀ i, i < wa.heap.size + 3 → wb.heap[i]? = _ := fun i hi => hgrow.block i (by simpa using hi) (by simp)
    refine Hp.of_blocks (w := _) ?_ (hb _ (by omega)) (hb _ (by omega))
    constructor <;> go_simp
  have Mb : Hid (Mp0 wb (wa.heap.size + 1)) := by
    refine mp0_of ?_
    rw [hgrow.block _ (by simp) (by simp), Below.heap_alloc _ _ _ (by simp)]
    have := heap_alloc_new (wa.alloc (.cells #[.string ⟨#[]⟩, .string ⟨#[]⟩, .slice (some ⟨w.heap.size + 1 + 1 + 1, 0, none⟩) n n, .int .i64 0, .int .i64 0, .slice none 0 0, .pointer none, .pointer none, .map none, .map none, .pointer none, .int .i64 0, .pointer none] 47 (0, 0))) (.map #[] 0)
    simpa using this
  clear hown hgrow
  clear b1 b2 b7 b8
  obtain ⟨b1, b2, b7, b8⟩ := Bxb.out
  obtain ⟨h6, h7, hz, p2⟩ := Hpb.out
  clear Bxa Ba hmm
  clear h6 h7 hz p2
  generalize wa.heap.size = N at hza hzb Fb Hpb Mb ⊢
  clear wa
  generalize hgw : N + 1 + 1 + 1 = gw at ⊢
  generalize hH : N + 1 + 1 = H at ⊢
  generalize hM : N + 1 = M at ⊢
  have HN : Hid (H = N + 2 ∧ M = N + 1 ∧ gw = N + 3) := ⟨hH.symm, hM.symm, hgw.symm⟩
  rw [show N + 3 = gw from hgw] at Fb hzb
  rw [show N + 1 = M from hM, show N + 2 = H from hH] at Hpb
  rw [show N + 1 = M from hM] at Mb
  clear hgw hH hM
  obtain ⟨h6, h7, hz, p2⟩ := Hpb.out
  have hr := HQ.out
  obtain ⟨c, hcol⟩ : ∃ c, ((kd = ⟨#[117, 110, 108, 111, 99, 107]⟩ ∧ c = some 1) ∨ (kd = ⟨#[100, 101, 102, 101, 114]⟩ ∧ c = some 4) ∨ (kd = ⟨#[102, 111, 114, 102, 101, 105, 116]⟩ ∧ rs = ⟨#[99, 111, 109, 112, 97, 110, 121]⟩ ∧ c = some 2) ∨ (kd = ⟨#[102, 111, 114, 102, 101, 105, 116]⟩ ∧ rs = ⟨#[114, 97, 116, 105, 110, 103]⟩ ∧ c = some 3) ∨ (kd = ⟨#[102, 111, 114, 102, 101, 105, 116]⟩ ∧ rs = ⟨#[]⟩ ∧ c = some 3) ∨ (kd = ⟨#[114, 101, 115, 117, 108, 116]⟩ ∧ c = none)) := by
    have h4 : ki % 4 < 4 := Nat.mod_lt _ (by decide)
    have h3 : re % 3 < 3 := Nat.mod_lt _ (by decide)
    have e1 := HKD.out
    have e2 := HRS.out
    generalize ki % 4 = i at h4 e1
    generalize re % 3 = j at h3 e2
    match i, h4, j, h3, e1, e2 with
    | 0, _, _, _, e1, _ => exact ⟨_, Or.inl ⟨e1, rfl⟩⟩
    | 1, _, _, _, e1, _ => exact ⟨_, Or.inr (Or.inl ⟨e1, rfl⟩)⟩
    | 2, _, 0, _, e1, e2 => exact ⟨_, Or.inr (Or.inr (Or.inl ⟨e1, e2, rfl⟩))⟩
    | 2, _, 1, _, e1, e2 => exact ⟨_, Or.inr (Or.inr (Or.inr (Or.inl ⟨e1, e2, rfl⟩)))⟩
    | 2, _, 2, _, e1, e2 => exact ⟨_, Or.inr (Or.inr (Or.inr (Or.inr (Or.inl ⟨e1, e2, rfl⟩))))⟩
    | 3, _, _, _, e1, _ => exact ⟨_, Or.inr (Or.inr (Or.inr (Or.inr (Or.inr ⟨e1, rfl⟩))))⟩
  have HC : Hid ((kd = ⟨#[117, 110, 108, 111, 99, 107]⟩ ∧ c = some 1) ∨ (kd = ⟨#[100, 101, 102, 101, 114]⟩ ∧ c = some 4) ∨ (kd = ⟨#[102, 111, 114, 102, 101, 105, 116]⟩ ∧ rs = ⟨#[99, 111, 109, 112, 97, 110, 121]⟩ ∧ c = some 2) ∨ (kd = ⟨#[102, 111, 114, 102, 101, 105, 116]⟩ ∧ rs = ⟨#[114, 97, 116, 105, 110, 103]⟩ ∧ c = some 3) ∨ (kd = ⟨#[102, 111, 114, 102, 101, 105, 116]⟩ ∧ rs = ⟨#[]⟩ ∧ c = some 3) ∨ (kd = ⟨#[114, 101, 115, 117, 108, 116]⟩ ∧ c = none)) := hcol
  clear hcol HKD HRS
  go_wp2_with fail
  refine (count_ok kd hol rs c q y (sh / 2) k n H M (wb.heap.size + 2) N n (some ⟨w.heap.size + 3, 0, none⟩) (List.replicate (n * 6) 0) _ hs ?_ ?_ ?_ ?_ ?_ ?_ ?_ ?_ ?_ (by have := HQ.out; omega) ?_ kn n8 (by simp) HC.out (Or.inr ⟨?_, rfl, ?_⟩)).mono ?_
  · simp
    have := HN.out
    omega
  · have := HN.out
    omega
  · have := HN.out
    omega
  · simp
    have := HN.out
    omega
  · rw [World.cell?_of_block (Below.heap_alloc _ _ _ (by simp; have := HN.out; omega))]
    exact h7
  · rw [World.frozen?_of_block (Below.heap_alloc _ _ _ (by simp; have := HN.out; omega))]
    exact hz
  · rw [World.cell?_of_block (Below.heap_alloc _ _ _ (by simp; have := HN.out; omega))]
    exact h6
  · have := HN.out
    omega
  · have := HN.out
    omega
  · rw [World.cell?_of_block (Below.heap_alloc _ _ _ (by simp; have := HN.out; omega))]
    exact p2
  · exact Mb.out.of_block (Below.heap_alloc _ _ _ (by have := HN.out; omega))
  · simp
  rintro e w' ⟨rfl, ho, e7, e6, hm, hf⟩
  have hblk : Hid (∀ i, i < wb.heap.size → i ≠ H → i ≠ M → w'.heap[i]? = wb.heap[i]?) := fun i hi h2 h1 => (ho.block i (by simp; have := HN.out; omega) (by have := HN.out; omega)).trans (Below.heap_alloc _ _ _ hi)
  have O' : Hid (Below w.heap.size w w') := (Bb.out.below (Nat.le_refl _) (fun i h => h.elim)).trans ((Below.alloc (Below.refl _ wb) (by have := HN.out; omega) _).trans (ho.below (by simp; have := HN.out; omega) (by have := HN.out; omega)))
  have B' : Hid (Bx w' w.heap.size q hol false y) := Bxb.out.of_block (hblk.out _ (by have := HN.out; omega) (by have := HN.out; omega) (by have := HN.out; omega))
  have W' : Hid (Fig w' gw (List.replicate (n * 6) 0)) := Fb.out.of_block (hblk.out _ (by have := HN.out; omega) (by have := HN.out; omega) (by have := HN.out; omega))
  have M' : Hid (Mp1 w' M hol (.slice (some ⟨wb.heap.size + 2, 0, none⟩) n n)) := hm
  have G' : Hid (Fig w' (wb.heap.size + 2) (added c (List.replicate (n * 6) 0) k q)) := hf
  have hL : (List.replicate (n * 6) (0 : Int)).length = n * 6 := by simp
  have hgg : gw ≠ wb.heap.size + 2 := by have := HN.out; omega
  clear b1 b2 b7 b8 h6 h7 hz p2 ho hm hf hblk
  obtain ⟨b1, b2, b7, b8⟩ := B'.out
  generalize List.replicate (n * 6) (0 : Int) = L at W' G' hL
  generalize wb.heap.size + 2 = gs at M' G' hgg
  clear Bb Fb Bxb Hpb Mb hzb
  have hw64 : wrap64 (sh / 2 + q) = sh / 2 + q := IntWalk.wrap64_in _ (by have := HN.out; omega)
  rw [hw64] at e7
  go_wp2
  go_quiet (fail)
  generalize hw1 : World.drewN w' _ = w1
  have B1 : Hid (Bx w1 w.heap.size q hol false y) := by
    rw [← hw1]
    exact B'.out.of_block rfl
  have M1 : Hid (Mp1 w1 M hol (.slice (some ⟨gs, 0, none⟩) n n)) := by
    rw [← hw1]
    exact M'.out.of_block rfl
  have G1 : Hid (Fig w1 gs (added c L k q)) := by
    rw [← hw1]
    exact G'.out.of_block rfl
  have W1 : Hid (Fig w1 gw L) := by
    rw [← hw1]
    exact W'.out.of_block rfl
  have O1 : Hid (Below w.heap.size w w1) := by
    rw [← hw1]
    exact O'.out.trans ⟨rfl, rfl, rfl, Nat.le_refl _, fun _ _ => rfl⟩
  have d6 : w1.cell? ⟨H, 6, none⟩ = some (.map (some M)) := by
    rw [← hw1]
    exact e6
  clear hw1 B' M' G' W' O' e6 e7 b1 b2 b7 b8
  clear w'
  obtain ⟨b1, b2, b7, b8⟩ := B1.out
  have hgl : Hid (gw < w1.heap.size) := W1.out.lt
  have HLC : Hid (∀ j, j < 6 → w1.cell? ⟨gw, k * 6 + j, none⟩ = some (.int .i64 (L.getD (k * 6 + j) 0))) := fun j hj => W1.out.cell (by have := HN.out; omega)
  obtain ⟨f, hf⟩ : ∃ f : Nat → Int, ∀ j, L.getD (k * 6 + j) 0 = f j := ⟨fun j => L.getD (k * 6 + j) 0, fun _ => rfl⟩
  have HFf : Hid (∀ j, L.getD (k * 6 + j) 0 = f j) := hf
  have HLf : Hid (∀ j, j < 6 → w1.cell? ⟨gw, k * 6 + j, none⟩ = some (.int .i64 (f j))) := fun j hj => by rw [HLC.out j hj, hf j]
  clear hf HLC
  have hcc : Hid (c = none ∨ c = some 1 ∨ c = some 2 ∨ c = some 3 ∨ c = some 4) := by
    rcases HC.out with ⟨_, h⟩ | ⟨_, h⟩ | ⟨_, _, h⟩ | ⟨_, _, h⟩ | ⟨_, _, h⟩ | ⟨_, h⟩
    · exact Or.inr (Or.inl h)
    · exact Or.inr (Or.inr (Or.inr (Or.inr h)))
    · exact Or.inr (Or.inr (Or.inl h))
    · exact Or.inr (Or.inr (Or.inr (Or.inl h)))
    · exact Or.inr (Or.inr (Or.inr (Or.inl h)))
    · exact Or.inl h
  rcases HC.out with ⟨rfl, hc⟩ | ⟨rfl, hc⟩ | ⟨rfl, rfl, hc⟩ | ⟨rfl, rfl, hc⟩ | ⟨rfl, rfl, hc⟩ | ⟨rfl, hc⟩
  · have hcol : Hid (c = some 1) := hc
    clear hc
    go_wp2_with (first | refine wpList_load6v rfl (.tmp 185) rfl gw (k * 6) f rfl HLf.out ?_ | refine wpList_store6 rfl (.tmp 223) (.tmp 222) rfl gw k L _ _ _ _ _ _ rfl rfl (W1.out.of_block (Below.heap_alloc _ _ _ hgl.out)) (by omega) ?_)
    intro w2 F2 N2
    have HF2 : Hid (Fig w2 gw (added c L k q)) := by
      rw [← put6_added c L k q hcc.out (by omega), hcol.out]
      have e0 := HFf.out 0
      simp only [Nat.add_zero] at e0
      simp only [HFf.out, e0, reduceCtorEq, Option.some.injEq, Nat.reduceEqDiff, if_true, if_false]
      exact F2
    have HBel : Hid (Below w.heap.size w w2) := N2.below (O1.out.alloc (by have := O1.out.size; omega) _) (by have := HN.out; omega)
    have hb2 : Hid (∀ i, i < w1.heap.size → i ≠ gw → w2.heap[i]? = w1.heap[i]?) := fun i hi hne => (N2.block i hne).trans (Below.heap_alloc _ _ _ hi)
    have HG2 : Hid (Fig w2 gs (added c L k q)) := G1.out.of_block (hb2.out _ G1.out.lt (Ne.symm hgg))
    have HLen : Hid ((added c L k q).length = n * 6) := by
      show (added c L k q).length = n * 6
      rw [← hL]
      unfold added
      split <;> simp
    have hMl : M < w1.heap.size := M1.out.lt
    have M2 : Hid (Mp1 w2 M hol (.slice (some ⟨gs, 0, none⟩) n n)) := M1.out.of_block (hb2.out _ hMl (by have := HN.out; omega))
    have hgl1 := hgl.out
    have d6' : w2.cell? ⟨H, 6, none⟩ = some (.map (some M)) := by
      rw [World.cell?_of_block (hb2.out H (by have := HN.out; omega) (by have := HN.out; omega))]
      exact d6
    have hlen : ∀ ty, (Builtin.len_ #[49] ty #[.map (some M)]).run Ybaf.prog w2 = .ok (.int .i64 1) w2 := fun ty => M2.out.len ty
    have hlook : ∀ m, (Instr.lookup 49 (.map (some M)) (.string hol) false).run Ybaf.prog (w2.drewN m) = .ok (.slice (some ⟨gs, 0, none⟩) n n) (w2.drewN m) := fun m => (M2.out.of_block (w' := w2.drewN m) rfl).look hs
    have B2 : Hid (Bx w2 w.heap.size q hol false y) := B1.out.of_block (hb2.out _ (by have := HN.out; omega) (by have := HN.out; omega))
    clear b1 b2 b7 b8 d6 F2 N2 hgl1 hMl
    obtain ⟨b1, b2, b7, b8⟩ := B2.out
    go_wp2
    go_quiet (fail)
    clear hlook hlen
    go_wp2
    go_quiet (fail)
    go_wp2
    go_loopw [24] (fun i wr => ∃ j : Nat, j ≤ n ∧ i = .int .i64 j ∧ Sm w2 wr) (fun i _ => n + 1 - (intOf i).toNat)
    case atStart => exact ⟨0, by omega, rfl, ⟨rfl, rfl, rfl, rfl⟩⟩
    case round =>
      obtain ⟨j, hj, rfl, hsm'⟩ := hrel
      have hsm : Hid (Sm w2 wr) := hsm'
      clear hsm'
      by_cases hjn : j < n
      · have hjn' : (j : Int) < (n : Int) := by omega
        have ca := hsm.out.cells HG2.out HLen.out hjn
        have cb := hsm.out.cells HF2.out HLen.out hjn
        generalize hv : (fun t => (added c L k q).getD (j * 6 + t) 0) = v
        have ev : ∀ t, (added c L k q).getD (j * 6 + t) 0 = v t := fun t => by rw [← hv]
        have ca0 : wr.cell? ⟨gs, j * 6, none⟩ = some (.int .i64 (v 0)) := by rw [← ev 0]; exact ca 0 (by omega)
        have ca1 : wr.cell? ⟨gs, j * 6 + 1, none⟩ = some (.int .i64 (v 1)) := by rw [← ev 1]; exact ca 1 (by omega)
        have ca2 : wr.cell? ⟨gs, j * 6 + 2, none⟩ = some (.int .i64 (v 2)) := by rw [← ev 2]; exact ca 2 (by omega)
        have ca3 : wr.cell? ⟨gs, j * 6 + 3, none⟩ = some (.int .i64 (v 3)) := by rw [← ev 3]; exact ca 3 (by omega)
        have ca4 : wr.cell? ⟨gs, j * 6 + 4, none⟩ = some (.int .i64 (v 4)) := by rw [← ev 4]; exact ca 4 (by omega)
        have ca5 : wr.cell? ⟨gs, j * 6 + 5, none⟩ = some (.int .i64 (v 5)) := by rw [← ev 5]; exact ca 5 (by omega)
        have cb0 : wr.cell? ⟨gw, j * 6, none⟩ = some (.int .i64 (v 0)) := by rw [← ev 0]; exact cb 0 (by omega)
        have cb1 : wr.cell? ⟨gw, j * 6 + 1, none⟩ = some (.int .i64 (v 1)) := by rw [← ev 1]; exact cb 1 (by omega)
        have cb2 : wr.cell? ⟨gw, j * 6 + 2, none⟩ = some (.int .i64 (v 2)) := by rw [← ev 2]; exact cb 2 (by omega)
        have cb3 : wr.cell? ⟨gw, j * 6 + 3, none⟩ = some (.int .i64 (v 3)) := by rw [← ev 3]; exact cb 3 (by omega)
        have cb4 : wr.cell? ⟨gw, j * 6 + 4, none⟩ = some (.int .i64 (v 4)) := by rw [← ev 4]; exact cb 4 (by omega)
        have cb5 : wr.cell? ⟨gw, j * 6 + 5, none⟩ = some (.int .i64 (v 5)) := by rw [← ev 5]; exact cb 5 (by omega)
        clear ca cb ev hv
        go_wp2
        go_quiet (fail)
        go_wp2
        go_roundw
        case rel => exact ⟨j + 1, by omega, by go_num, ⟨hsm.out.os, hsm.out.tape, hsm.out.output, hsm.out.heap⟩⟩
        case measure => simp [intOf]; omega
      · have hjn' : ¬ (j : Int) < (n : Int) := by omega
        go_wp2
        go_ret
        exact ⟨rfl, hsm.out.below HBel.out⟩
  · have hcol : Hid (c = some 4) := hc
    clear hc
    go_wp2_with (first | refine wpList_load6v rfl (.tmp 185) rfl gw (k * 6) f rfl HLf.out ?_ | refine wpList_store6 rfl (.tmp 223) (.tmp 222) rfl gw k L _ _ _ _ _ _ rfl rfl (W1.out.of_block (Below.heap_alloc _ _ _ hgl.out)) (by omega) ?_)
    intro w2 F2 N2
    have HF2 : Hid (Fig w2 gw (added c L k q)) := by
      rw [← put6_added c L k q hcc.out (by omega), hcol.out]
      have e0 := HFf.out 0
      simp only [Nat.add_zero] at e0
      simp only [HFf.out, e0, reduceCtorEq, Option.some.injEq, Nat.reduceEqDiff, if_true, if_false]
      exact F2
    have HBel : Hid (Below w.heap.size w w2) := N2.below (O1.out.alloc (by have := O1.out.size; omega) _) (by have := HN.out; omega)
    have hb2 : Hid (∀ i, i < w1.heap.size → i ≠ gw → w2.heap[i]? = w1.heap[i]?) := fun i hi hne => (N2.block i hne).trans (Below.heap_alloc _ _ _ hi)
    have HG2 : Hid (Fig w2 gs (added c L k q)) := G1.out.of_block (hb2.out _ G1.out.lt (Ne.symm hgg))
    have HLen : Hid ((added c L k q).length = n * 6) := by
      show (added c L k q).length = n * 6
      rw [← hL]
      unfold added
      split <;> simp
    have hMl : M < w1.heap.size := M1.out.lt
    have M2 : Hid (Mp1 w2 M hol (.slice (some ⟨gs, 0, none⟩) n n)) := M1.out.of_block (hb2.out _ hMl (by have := HN.out; omega))
    have hgl1 := hgl.out
    have d6' : w2.cell? ⟨H, 6, none⟩ = some (.map (some M)) := by
      rw [World.cell?_of_block (hb2.out H (by have := HN.out; omega) (by have := HN.out; omega))]
      exact d6
    have hlen : ∀ ty, (Builtin.len_ #[49] ty #[.map (some M)]).run Ybaf.prog w2 = .ok (.int .i64 1) w2 := fun ty => M2.out.len ty
    have hlook : ∀ m, (Instr.lookup 49 (.map (some M)) (.string hol) false).run Ybaf.prog (w2.drewN m) = .ok (.slice (some ⟨gs, 0, none⟩) n n) (w2.drewN m) := fun m => (M2.out.of_block (w' := w2.drewN m) rfl).look hs
    have B2 : Hid (Bx w2 w.heap.size q hol false y) := B1.out.of_block (hb2.out _ (by have := HN.out; omega) (by have := HN.out; omega))
    clear b1 b2 b7 b8 d6 F2 N2 hgl1 hMl
    obtain ⟨b1, b2, b7, b8⟩ := B2.out
    go_wp2
    go_quiet (fail)
    clear hlook hlen
    go_wp2
    go_quiet (fail)
    go_wp2
    go_loopw [24] (fun i wr => ∃ j : Nat, j ≤ n ∧ i = .int .i64 j ∧ Sm w2 wr) (fun i _ => n + 1 - (intOf i).toNat)
    case atStart => exact ⟨0, by omega, rfl, ⟨rfl, rfl, rfl, rfl⟩⟩
    case round =>
      obtain ⟨j, hj, rfl, hsm'⟩ := hrel
      have hsm : Hid (Sm w2 wr) := hsm'
      clear hsm'
      by_cases hjn : j < n
      · have hjn' : (j : Int) < (n : Int) := by omega
        have ca := hsm.out.cells HG2.out HLen.out hjn
        have cb := hsm.out.cells HF2.out HLen.out hjn
        generalize hv : (fun t => (added c L k q).getD (j * 6 + t) 0) = v
        have ev : ∀ t, (added c L k q).getD (j * 6 + t) 0 = v t := fun t => by rw [← hv]
        have ca0 : wr.cell? ⟨gs, j * 6, none⟩ = some (.int .i64 (v 0)) := by rw [← ev 0]; exact ca 0 (by omega)
        have ca1 : wr.cell? ⟨gs, j * 6 + 1, none⟩ = some (.int .i64 (v 1)) := by rw [← ev 1]; exact ca 1 (by omega)
        have ca2 : wr.cell? ⟨gs, j * 6 + 2, none⟩ = some (.int .i64 (v 2)) := by rw [← ev 2]; exact ca 2 (by omega)
        have ca3 : wr.cell? ⟨gs, j * 6 + 3, none⟩ = some (.int .i64 (v 3)) := by rw [← ev 3]; exact ca 3 (by omega)
        have ca4 : wr.cell? ⟨gs, j * 6 + 4, none⟩ = some (.int .i64 (v 4)) := by rw [← ev 4]; exact ca 4 (by omega)
        have ca5 : wr.cell? ⟨gs, j * 6 + 5, none⟩ = some (.int .i64 (v 5)) := by rw [← ev 5]; exact ca 5 (by omega)
        have cb0 : wr.cell? ⟨gw, j * 6, none⟩ = some (.int .i64 (v 0)) := by rw [← ev 0]; exact cb 0 (by omega)
        have cb1 : wr.cell? ⟨gw, j * 6 + 1, none⟩ = some (.int .i64 (v 1)) := by rw [← ev 1]; exact cb 1 (by omega)
        have cb2 : wr.cell? ⟨gw, j * 6 + 2, none⟩ = some (.int .i64 (v 2)) := by rw [← ev 2]; exact cb 2 (by omega)
        have cb3 : wr.cell? ⟨gw, j * 6 + 3, none⟩ = some (.int .i64 (v 3)) := by rw [← ev 3]; exact cb 3 (by omega)
        have cb4 : wr.cell? ⟨gw, j * 6 + 4, none⟩ = some (.int .i64 (v 4)) := by rw [← ev 4]; exact cb 4 (by omega)
        have cb5 : wr.cell? ⟨gw, j * 6 + 5, none⟩ = some (.int .i64 (v 5)) := by rw [← ev 5]; exact cb 5 (by omega)
        clear ca cb ev hv
        go_wp2
        go_quiet (fail)
        go_wp2
        go_roundw
        case rel => exact ⟨j + 1, by omega, by go_num, ⟨hsm.out.os, hsm.out.tape, hsm.out.output, hsm.out.heap⟩⟩
        case measure => simp [intOf]; omega
      · have hjn' : ¬ (j : Int) < (n : Int) := by omega
        go_wp2
        go_ret
        exact ⟨rfl, hsm.out.below HBel.out⟩
  · have hcol : Hid (c = some 2) := hc
    clear hc
    go_wp2_with (first | refine wpList_load6v rfl (.tmp 185) rfl gw (k * 6) f rfl HLf.out ?_ | refine wpList_store6 rfl (.tmp 223) (.tmp 222) rfl gw k L _ _ _ _ _ _ rfl rfl (W1.out.of_block (Below.heap_alloc _ _ _ hgl.out)) (by omega) ?_)
    intro w2 F2 N2
    have HF2 : Hid (Fig w2 gw (added c L k q)) := by
      rw [← put6_added c L k q hcc.out (by omega), hcol.out]
      have e0 := HFf.out 0
      simp only [Nat.add_zero] at e0
      simp only [HFf.out, e0, reduceCtorEq, Option.some.injEq, Nat.reduceEqDiff, if_true, if_false]
      exact F2
    have HBel : Hid (Below w.heap.size w w2) := N2.below (O1.out.alloc (by have := O1.out.size; omega) _) (by have := HN.out; omega)
    have hb2 : Hid (∀ i, i < w1.heap.size → i ≠ gw → w2.heap[i]? = w1.heap[i]?) := fun i hi hne => (N2.block i hne).trans (Below.heap_alloc _ _ _ hi)
    have HG2 : Hid (Fig w2 gs (added c L k q)) := G1.out.of_block (hb2.out _ G1.out.lt (Ne.symm hgg))
    have HLen : Hid ((added c L k q).length = n * 6) := by
      show (added c L k q).length = n * 6
      rw [← hL]
      unfold added
      split <;> simp
    have hMl : M < w1.heap.size := M1.out.lt
    have M2 : Hid (Mp1 w2 M hol (.slice (some ⟨gs, 0, none⟩) n n)) := M1.out.of_block (hb2.out _ hMl (by have := HN.out; omega))
    have hgl1 := hgl.out
    have d6' : w2.cell? ⟨H, 6, none⟩ = some (.map (some M)) := by
      rw [World.cell?_of_block (hb2.out H (by have := HN.out; omega) (by have := HN.out; omega))]
      exact d6
    have hlen : ∀ ty, (Builtin.len_ #[49] ty #[.map (some M)]).run Ybaf.prog w2 = .ok (.int .i64 1) w2 := fun ty => M2.out.len ty
    have hlook : ∀ m, (Instr.lookup 49 (.map (some M)) (.string hol) false).run Ybaf.prog (w2.drewN m) = .ok (.slice (some ⟨gs, 0, none⟩) n n) (w2.drewN m) := fun m => (M2.out.of_block (w' := w2.drewN m) rfl).look hs
    have B2 : Hid (Bx w2 w.heap.size q hol false y) := B1.out.of_block (hb2.out _ (by have := HN.out; omega) (by have := HN.out; omega))
    clear b1 b2 b7 b8 d6 F2 N2 hgl1 hMl
    obtain ⟨b1, b2, b7, b8⟩ := B2.out
    go_wp2
    go_quiet (fail)
    clear hlook hlen
    go_wp2
    go_quiet (fail)
    go_wp2
    go_loopw [24] (fun i wr => ∃ j : Nat, j ≤ n ∧ i = .int .i64 j ∧ Sm w2 wr) (fun i _ => n + 1 - (intOf i).toNat)
    case atStart => exact ⟨0, by omega, rfl, ⟨rfl, rfl, rfl, rfl⟩⟩
    case round =>
      obtain ⟨j, hj, rfl, hsm'⟩ := hrel
      have hsm : Hid (Sm w2 wr) := hsm'
      clear hsm'
      by_cases hjn : j < n
      · have hjn' : (j : Int) < (n : Int) := by omega
        have ca := hsm.out.cells HG2.out HLen.out hjn
        have cb := hsm.out.cells HF2.out HLen.out hjn
        generalize hv : (fun t => (added c L k q).getD (j * 6 + t) 0) = v
        have ev : ∀ t, (added c L k q).getD (j * 6 + t) 0 = v t := fun t => by rw [← hv]
        have ca0 : wr.cell? ⟨gs, j * 6, none⟩ = some (.int .i64 (v 0)) := by rw [← ev 0]; exact ca 0 (by omega)
        have ca1 : wr.cell? ⟨gs, j * 6 + 1, none⟩ = some (.int .i64 (v 1)) := by rw [← ev 1]; exact ca 1 (by omega)
        have ca2 : wr.cell? ⟨gs, j * 6 + 2, none⟩ = some (.int .i64 (v 2)) := by rw [← ev 2]; exact ca 2 (by omega)
        have ca3 : wr.cell? ⟨gs, j * 6 + 3, none⟩ = some (.int .i64 (v 3)) := by rw [← ev 3]; exact ca 3 (by omega)
        have ca4 : wr.cell? ⟨gs, j * 6 + 4, none⟩ = some (.int .i64 (v 4)) := by rw [← ev 4]; exact ca 4 (by omega)
        have ca5 : wr.cell? ⟨gs, j * 6 + 5, none⟩ = some (.int .i64 (v 5)) := by rw [← ev 5]; exact ca 5 (by omega)
        have cb0 : wr.cell? ⟨gw, j * 6, none⟩ = some (.int .i64 (v 0)) := by rw [← ev 0]; exact cb 0 (by omega)
        have cb1 : wr.cell? ⟨gw, j * 6 + 1, none⟩ = some (.int .i64 (v 1)) := by rw [← ev 1]; exact cb 1 (by omega)
        have cb2 : wr.cell? ⟨gw, j * 6 + 2, none⟩ = some (.int .i64 (v 2)) := by rw [← ev 2]; exact cb 2 (by omega)
        have cb3 : wr.cell? ⟨gw, j * 6 + 3, none⟩ = some (.int .i64 (v 3)) := by rw [← ev 3]; exact cb 3 (by omega)
        have cb4 : wr.cell? ⟨gw, j * 6 + 4, none⟩ = some (.int .i64 (v 4)) := by rw [← ev 4]; exact cb 4 (by omega)
        have cb5 : wr.cell? ⟨gw, j * 6 + 5, none⟩ = some (.int .i64 (v 5)) := by rw [← ev 5]; exact cb 5 (by omega)
        clear ca cb ev hv
        go_wp2
        go_quiet (fail)
        go_wp2
        go_roundw
        case rel => exact ⟨j + 1, by omega, by go_num, ⟨hsm.out.os, hsm.out.tape, hsm.out.output, hsm.out.heap⟩⟩
        case measure => simp [intOf]; omega
      · have hjn' : ¬ (j : Int) < (n : Int) := by omega
        go_wp2
        go_ret
        exact ⟨rfl, hsm.out.below HBel.out⟩
  · have hcol : Hid (c = some 3) := hc
    clear hc
    go_wp2_with (first | refine wpList_load6v rfl (.tmp 185) rfl gw (k * 6) f rfl HLf.out ?_ | refine wpList_store6 rfl (.tmp 223) (.tmp 222) rfl gw k L _ _ _ _ _ _ rfl rfl (W1.out.of_block (Below.heap_alloc _ _ _ hgl.out)) (by omega) ?_)
    intro w2 F2 N2
    have HF2 : Hid (Fig w2 gw (added c L k q)) := by
      rw [← put6_added c L k q hcc.out (by omega), hcol.out]
      have e0 := HFf.out 0
      simp only [Nat.add_zero] at e0
      simp only [HFf.out, e0, reduceCtorEq, Option.some.injEq, Nat.reduceEqDiff, if_true, if_false]
      exact F2
    have HBel : Hid (Below w.heap.size w w2) := N2.below (O1.out.alloc (by have := O1.out.size; omega) _) (by have := HN.out; omega)
    have hb2 : Hid (∀ i, i < w1.heap.size → i ≠ gw → w2.heap[i]? = w1.heap[i]?) := fun i hi hne => (N2.block i hne).trans (Below.heap_alloc _ _ _ hi)
    have HG2 : Hid (Fig w2 gs (added c L k q)) := G1.out.of_block (hb2.out _ G1.out.lt (Ne.symm hgg))
    have HLen : Hid ((added c L k q).length = n * 6) := by
      show (added c L k q).length = n * 6
      rw [← hL]
      unfold added
      split <;> simp
    have hMl : M < w1.heap.size := M1.out.lt
    have M2 : Hid (Mp1 w2 M hol (.slice (some ⟨gs, 0, none⟩) n n)) := M1.out.of_block (hb2.out _ hMl (by have := HN.out; omega))
    have hgl1 := hgl.out
    have d6' : w2.cell? ⟨H, 6, none⟩ = some (.map (some M)) := by
      rw [World.cell?_of_block (hb2.out H (by have := HN.out; omega) (by have := HN.out; omega))]
      exact d6
    have hlen : ∀ ty, (Builtin.len_ #[49] ty #[.map (some M)]).run Ybaf.prog w2 = .ok (.int .i64 1) w2 := fun ty => M2.out.len ty
    have hlook : ∀ m, (Instr.lookup 49 (.map (some M)) (.string hol) false).run Ybaf.prog (w2.drewN m) = .ok (.slice (some ⟨gs, 0, none⟩) n n) (w2.drewN m) := fun m => (M2.out.of_block (w' := w2.drewN m) rfl).look hs
    have B2 : Hid (Bx w2 w.heap.size q hol false y) := B1.out.of_block (hb2.out _ (by have := HN.out; omega) (by have := HN.out; omega))
    clear b1 b2 b7 b8 d6 F2 N2 hgl1 hMl
    obtain ⟨b1, b2, b7, b8⟩ := B2.out
    go_wp2
    go_quiet (fail)
    clear hlook hlen
    go_wp2
    go_quiet (fail)
    go_wp2
    go_loopw [24] (fun i wr => ∃ j : Nat, j ≤ n ∧ i = .int .i64 j ∧ Sm w2 wr) (fun i _ => n + 1 - (intOf i).toNat)
    case atStart => exact ⟨0, by omega, rfl, ⟨rfl, rfl, rfl, rfl⟩⟩
    case round =>
      obtain ⟨j, hj, rfl, hsm'⟩ := hrel
      have hsm : Hid (Sm w2 wr) := hsm'
      clear hsm'
      by_cases hjn : j < n
      · have hjn' : (j : Int) < (n : Int) := by omega
        have ca := hsm.out.cells HG2.out HLen.out hjn
        have cb := hsm.out.cells HF2.out HLen.out hjn
        generalize hv : (fun t => (added c L k q).getD (j * 6 + t) 0) = v
        have ev : ∀ t, (added c L k q).getD (j * 6 + t) 0 = v t := fun t => by rw [← hv]
        have ca0 : wr.cell? ⟨gs, j * 6, none⟩ = some (.int .i64 (v 0)) := by rw [← ev 0]; exact ca 0 (by omega)
        have ca1 : wr.cell? ⟨gs, j * 6 + 1, none⟩ = some (.int .i64 (v 1)) := by rw [← ev 1]; exact ca 1 (by omega)
        have ca2 : wr.cell? ⟨gs, j * 6 + 2, none⟩ = some (.int .i64 (v 2)) := by rw [← ev 2]; exact ca 2 (by omega)
        have ca3 : wr.cell? ⟨gs, j * 6 + 3, none⟩ = some (.int .i64 (v 3)) := by rw [← ev 3]; exact ca 3 (by omega)
        have ca4 : wr.cell? ⟨gs, j * 6 + 4, none⟩ = some (.int .i64 (v 4)) := by rw [← ev 4]; exact ca 4 (by omega)
        have ca5 : wr.cell? ⟨gs, j * 6 + 5, none⟩ = some (.int .i64 (v 5)) := by rw [← ev 5]; exact ca 5 (by omega)
        have cb0 : wr.cell? ⟨gw, j * 6, none⟩ = some (.int .i64 (v 0)) := by rw [← ev 0]; exact cb 0 (by omega)
        have cb1 : wr.cell? ⟨gw, j * 6 + 1, none⟩ = some (.int .i64 (v 1)) := by rw [← ev 1]; exact cb 1 (by omega)
        have cb2 : wr.cell? ⟨gw, j * 6 + 2, none⟩ = some (.int .i64 (v 2)) := by rw [← ev 2]; exact cb 2 (by omega)
        have cb3 : wr.cell? ⟨gw, j * 6 + 3, none⟩ = some (.int .i64 (v 3)) := by rw [← ev 3]; exact cb 3 (by omega)
        have cb4 : wr.cell? ⟨gw, j * 6 + 4, none⟩ = some (.int .i64 (v 4)) := by rw [← ev 4]; exact cb 4 (by omega)
        have cb5 : wr.cell? ⟨gw, j * 6 + 5, none⟩ = some (.int .i64 (v 5)) := by rw [← ev 5]; exact cb 5 (by omega)
        clear ca cb ev hv
        go_wp2
        go_quiet (fail)
        go_wp2
        go_roundw
        case rel => exact ⟨j + 1, by omega, by go_num, ⟨hsm.out.os, hsm.out.tape, hsm.out.output, hsm.out.heap⟩⟩
        case measure => simp [intOf]; omega
      · have hjn' : ¬ (j : Int) < (n : Int) := by omega
        go_wp2
        go_ret
        exact ⟨rfl, hsm.out.below HBel.out⟩
  · have hcol : Hid (c = some 3) := hc
    clear hc
    go_wp2_with (first | refine wpList_load6v rfl (.tmp 185) rfl gw (k * 6) f rfl HLf.out ?_ | refine wpList_store6 rfl (.tmp 223) (.tmp 222) rfl gw k L _ _ _ _ _ _ rfl rfl (W1.out.of_block (Below.heap_alloc _ _ _ hgl.out)) (by omega) ?_)
    intro w2 F2 N2
    have HF2 : Hid (Fig w2 gw (added c L k q)) := by
      rw [← put6_added c L k q hcc.out (by omega), hcol.out]
      have e0 := HFf.out 0
      simp only [Nat.add_zero] at e0
      simp only [HFf.out, e0, reduceCtorEq, Option.some.injEq, Nat.reduceEqDiff, if_true, if_false]
      exact F2
    have HBel : Hid (Below w.heap.size w w2) := N2.below (O1.out.alloc (by have := O1.out.size; omega) _) (by have := HN.out; omega)
    have hb2 : Hid (∀ i, i < w1.heap.size → i ≠ gw → w2.heap[i]? = w1.heap[i]?) := fun i hi hne => (N2.block i hne).trans (Below.heap_alloc _ _ _ hi)
    have HG2 : Hid (Fig w2 gs (added c L k q)) := G1.out.of_block (hb2.out _ G1.out.lt (Ne.symm hgg))
    have HLen : Hid ((added c L k q).length = n * 6) := by
      show (added c L k q).length = n * 6
      rw [← hL]
      unfold added
      split <;> simp
    have hMl : M < w1.heap.size := M1.out.lt
    have M2 : Hid (Mp1 w2 M hol (.slice (some ⟨gs, 0, none⟩) n n)) := M1.out.of_block (hb2.out _ hMl (by have := HN.out; omega))
    have hgl1 := hgl.out
    have d6' : w2.cell? ⟨H, 6, none⟩ = some (.map (some M)) := by
      rw [World.cell?_of_block (hb2.out H (by have := HN.out; omega) (by have := HN.out; omega))]
      exact d6
    have hlen : ∀ ty, (Builtin.len_ #[49] ty #[.map (some M)]).run Ybaf.prog w2 = .ok (.int .i64 1) w2 := fun ty => M2.out.len ty
    have hlook : ∀ m, (Instr.lookup 49 (.map (some M)) (.string hol) false).run Ybaf.prog (w2.drewN m) = .ok (.slice (some ⟨gs, 0, none⟩) n n) (w2.drewN m) := fun m => (M2.out.of_block (w' := w2.drewN m) rfl).look hs
    have B2 : Hid (Bx w2 w.heap.size q hol false y) := B1.out.of_block (hb2.out _ (by have := HN.out; omega) (by have := HN.out; omega))
    clear b1 b2 b7 b8 d6 F2 N2 hgl1 hMl
    obtain ⟨b1, b2, b7, b8⟩ := B2.out
    go_wp2
    go_quiet (fail)
    clear hlook hlen
    go_wp2
    go_quiet (fail)
    go_wp2
    go_loopw [24] (fun i wr => ∃ j : Nat, j ≤ n ∧ i = .int .i64 j ∧ Sm w2 wr) (fun i _ => n + 1 - (intOf i).toNat)
    case atStart => exact ⟨0, by omega, rfl, ⟨rfl, rfl, rfl, rfl⟩⟩
    case round =>
      obtain ⟨j, hj, rfl, hsm'⟩ := hrel
      have hsm : Hid (Sm w2 wr) := hsm'
      clear hsm'
      by_cases hjn : j < n
      · have hjn' : (j : Int) < (n : Int) := by omega
        have ca := hsm.out.cells HG2.out HLen.out hjn
        have cb := hsm.out.cells HF2.out HLen.out hjn
        generalize hv : (fun t => (added c L k q).getD (j * 6 + t) 0) = v
        have ev : ∀ t, (added c L k q).getD (j * 6 + t) 0 = v t := fun t => by rw [← hv]
        have ca0 : wr.cell? ⟨gs, j * 6, none⟩ = some (.int .i64 (v 0)) := by rw [← ev 0]; exact ca 0 (by omega)
        have ca1 : wr.cell? ⟨gs, j * 6 + 1, none⟩ = some (.int .i64 (v 1)) := by rw [← ev 1]; exact ca 1 (by omega)
        have ca2 : wr.cell? ⟨gs, j * 6 + 2, none⟩ = some (.int .i64 (v 2)) := by rw [← ev 2]; exact ca 2 (by omega)
        have ca3 : wr.cell? ⟨gs, j * 6 + 3, none⟩ = some (.int .i64 (v 3)) := by rw [← ev 3]; exact ca 3 (by omega)
        have ca4 : wr.cell? ⟨gs, j * 6 + 4, none⟩ = some (.int .i64 (v 4)) := by rw [← ev 4]; exact ca 4 (by omega)
        have ca5 : wr.cell? ⟨gs, j * 6 + 5, none⟩ = some (.int .i64 (v 5)) := by rw [← ev 5]; exact ca 5 (by omega)
        have cb0 : wr.cell? ⟨gw, j * 6, none⟩ = some (.int .i64 (v 0)) := by rw [← ev 0]; exact cb 0 (by omega)
        have cb1 : wr.cell? ⟨gw, j * 6 + 1, none⟩ = some (.int .i64 (v 1)) := by rw [← ev 1]; exact cb 1 (by omega)
        have cb2 : wr.cell? ⟨gw, j * 6 + 2, none⟩ = some (.int .i64 (v 2)) := by rw [← ev 2]; exact cb 2 (by omega)
        have cb3 : wr.cell? ⟨gw, j * 6 + 3, none⟩ = some (.int .i64 (v 3)) := by rw [← ev 3]; exact cb 3 (by omega)
        have cb4 : wr.cell? ⟨gw, j * 6 + 4, none⟩ = some (.int .i64 (v 4)) := by rw [← ev 4]; exact cb 4 (by omega)
        have cb5 : wr.cell? ⟨gw, j * 6 + 5, none⟩ = some (.int .i64 (v 5)) := by rw [← ev 5]; exact cb 5 (by omega)
        clear ca cb ev hv
        go_wp2
        go_quiet (fail)
        go_wp2
        go_roundw
        case rel => exact ⟨j + 1, by omega, by go_num, ⟨hsm.out.os, hsm.out.tape, hsm.out.output, hsm.out.heap⟩⟩
        case measure => simp [intOf]; omega
      · have hjn' : ¬ (j : Int) < (n : Int) := by omega
        go_wp2
        go_ret
        exact ⟨rfl, hsm.out.below HBel.out⟩
  · have hcol : Hid (c = none) := hc
    clear hc
    go_wp2_with (first | refine wpList_load6v rfl (.tmp 185) rfl gw (k * 6) f rfl HLf.out ?_ | refine wpList_store6 rfl (.tmp 223) (.tmp 222) rfl gw k L _ _ _ _ _ _ rfl rfl (W1.out.of_block (Below.heap_alloc _ _ _ hgl.out)) (by omega) ?_)
    intro w2 F2 N2
    have HF2 : Hid (Fig w2 gw (added c L k q)) := by
      rw [← put6_added c L k q hcc.out (by omega), hcol.out]
      have e0 := HFf.out 0
      simp only [Nat.add_zero] at e0
      simp only [HFf.out, e0, reduceCtorEq, Option.some.injEq, Nat.reduceEqDiff, if_true, if_false]
      exact F2
    have HBel : Hid (Below w.heap.size w w2) := N2.below (O1.out.alloc (by have := O1.out.size; omega) _) (by have := HN.out; omega)
    have hb2 : Hid (∀ i, i < w1.heap.size → i ≠ gw → w2.heap[i]? = w1.heap[i]?) := fun i hi hne => (N2.block i hne).trans (Below.heap_alloc _ _ _ hi)
    have HG2 : Hid (Fig w2 gs (added c L k q)) := G1.out.of_block (hb2.out _ G1.out.lt (Ne.symm hgg))
    have HLen : Hid ((added c L k q).length = n * 6) := by
      show (added c L k q).length = n * 6
      rw [← hL]
      unfold added
      split <;> simp
    have hMl : M < w1.heap.size := M1.out.lt
    have M2 : Hid (Mp1 w2 M hol (.slice (some ⟨gs, 0, none⟩) n n)) := M1.out.of_block (hb2.out _ hMl (by have := HN.out; omega))
    have hgl1 := hgl.out
    have d6' : w2.cell? ⟨H, 6, none⟩ = some (.map (some M)) := by
      rw [World.cell?_of_block (hb2.out H (by have := HN.out; omega) (by have := HN.out; omega))]
      exact d6
    have hlen : ∀ ty, (Builtin.len_ #[49] ty #[.map (some M)]).run Ybaf.prog w2 = .ok (.int .i64 1) w2 := fun ty => M2.out.len ty
    have hlook : ∀ m, (Instr.lookup 49 (.map (some M)) (.string hol) false).run Ybaf.prog (w2.drewN m) = .ok (.slice (some ⟨gs, 0, none⟩) n n) (w2.drewN m) := fun m => (M2.out.of_block (w' := w2.drewN m) rfl).look hs
    have B2 : Hid (Bx w2 w.heap.size q hol false y) := B1.out.of_block (hb2.out _ (by have := HN.out; omega) (by have := HN.out; omega))
    clear b1 b2 b7 b8 d6 F2 N2 hgl1 hMl
    obtain ⟨b1, b2, b7, b8⟩ := B2.out
    go_wp2
    go_quiet (fail)
    clear hlook hlen
    go_wp2
    go_quiet (fail)
    go_wp2
    go_loopw [24] (fun i wr => ∃ j : Nat, j ≤ n ∧ i = .int .i64 j ∧ Sm w2 wr) (fun i _ => n + 1 - (intOf i).toNat)
    case atStart => exact ⟨0, by omega, rfl, ⟨rfl, rfl, rfl, rfl⟩⟩
    case round =>
      obtain ⟨j, hj, rfl, hsm'⟩ := hrel
      have hsm : Hid (Sm w2 wr) := hsm'
      clear hsm'
      by_cases hjn : j < n
      · have hjn' : (j : Int) < (n : Int) := by omega
        have ca := hsm.out.cells HG2.out HLen.out hjn
        have cb := hsm.out.cells HF2.out HLen.out hjn
        generalize hv : (fun t => (added c L k q).getD (j * 6 + t) 0) = v
        have ev : ∀ t, (added c L k q).getD (j * 6 + t) 0 = v t := fun t => by rw [← hv]
        have ca0 : wr.cell? ⟨gs, j * 6, none⟩ = some (.int .i64 (v 0)) := by rw [← ev 0]; exact ca 0 (by omega)
        have ca1 : wr.cell? ⟨gs, j * 6 + 1, none⟩ = some (.int .i64 (v 1)) := by rw [← ev 1]; exact ca 1 (by omega)
        have ca2 : wr.cell? ⟨gs, j * 6 + 2, none⟩ = some (.int .i64 (v 2)) := by rw [← ev 2]; exact ca 2 (by omega)
        have ca3 : wr.cell? ⟨gs, j * 6 + 3, none⟩ = some (.int .i64 (v 3)) := by rw [← ev 3]; exact ca 3 (by omega)
        have ca4 : wr.cell? ⟨gs, j * 6 + 4, none⟩ = some (.int .i64 (v 4)) := by rw [← ev 4]; exact ca 4 (by omega)
        have ca5 : wr.cell? ⟨gs, j * 6 + 5, none⟩ = some (.int .i64 (v 5)) := by rw [← ev 5]; exact ca 5 (by omega)
        have cb0 : wr.cell? ⟨gw, j * 6, none⟩ = some (.int .i64 (v 0)) := by rw [← ev 0]; exact cb 0 (by omega)
        have cb1 : wr.cell? ⟨gw, j * 6 + 1, none⟩ = some (.int .i64 (v 1)) := by rw [← ev 1]; exact cb 1 (by omega)
        have cb2 : wr.cell? ⟨gw, j * 6 + 2, none⟩ = some (.int .i64 (v 2)) := by rw [← ev 2]; exact cb 2 (by omega)
        have cb3 : wr.cell? ⟨gw, j * 6 + 3, none⟩ = some (.int .i64 (v 3)) := by rw [← ev 3]; exact cb 3 (by omega)
        have cb4 : wr.cell? ⟨gw, j * 6 + 4, none⟩ = some (.int .i64 (v 4)) := by rw [← ev 4]; exact cb 4 (by omega)
        have cb5 : wr.cell? ⟨gw, j * 6 + 5, none⟩ = some (.int .i64 (v 5)) := by rw [← ev 5]; exact cb 5 (by omega)
        clear ca cb ev hv
        go_wp2
        go_quiet (fail)
        go_wp2
        go_roundw
        case rel => exact ⟨j + 1, by omega, by go_num, ⟨hsm.out.os, hsm.out.tape, hsm.out.output, hsm.out.heap⟩⟩
        case measure => simp [intOf]; omega
      · have hjn' : ¬ (j : Int) < (n : Int) := by omega
        go_wp2
        go_ret
        exact ⟨rfl, hsm.out.below HBel.out⟩

end Go.Proofs.YbulkcyqaFmt
