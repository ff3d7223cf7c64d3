/-
  THE LAW (function 5), no figures before, and count refuses.
-/
import Derived.Test.YbulkcyqaFmtBase
namespace Go.Proofs.YbulkcyqaFmt
set_option linter.unusedVariables false
set_option linter.unusedSimpArgs false
open Go.RowKit Go.Extern.Stop Go.Stop Go.Extern
attribute [local go_sem] eql30 eql69 neq69 neq59 neq71

set_option maxHeartbeats 4000000 in
set_option maxRecDepth 100000 in
theorem law_fr (F : Interp) (sh q y : Int) (hol : ByteArray) (np po ki re : Nat) (pa : Option Addr) (len cap : Nat) (w : World) (hF : F.answers w.tape) (hs : hol.size ≤ maxLen)
    (s0 : 0 ≤ sh) (s1 : sh ≤ 18446744073709551615) (q0 : -9223372036854775808 ≤ q) (q1 : q ≤ 9223372036854775807) (n1 : np ≤ 255) (p1 : po ≤ 255) (k1 : ki ≤ 255) (r1 : re ≤ 255)
    (hq : 9223372036854775807 - sh / 2 < q) :
    Calls Ybaf.prog 5 #[.agg (cs sh q hol np po ki re false y), .slice pa len cap] w fun e w' => e = .returned (.bool true) ∧ Below w.heap.size w w' := by
  unfold cs
  obtain ⟨n, hn⟩ : ∃ n : Nat, 1 + (np : Int) % 8 = (n : Int) := ⟨1 + np % 8, by omega⟩
  obtain ⟨k, hk⟩ : ∃ k : Nat, (po : Int) % (n : Int) = (k : Int) := ⟨po % n, by omega⟩
  have n0 : 1 ≤ n := by omega
  have n8 : n ≤ 8 := by omega
  have kn : k < n := by
    have := Int.emod_lt_of_pos (po : Int) (show (0 : Int) < (n : Int) by omega)
    omega
  obtain ⟨kd, hkd, HKD⟩ : ∃ kd, [Value.string ⟨#[117, 110, 108, 111, 99, 107]⟩, Value.string ⟨#[100, 101, 102, 101, 114]⟩, Value.string ⟨#[102, 111, 114, 102, 101, 105, 116]⟩, Value.string ⟨#[114, 101, 115, 117, 108, 116]⟩][ki % 4]? = some (Value.string kd) ∧ Hid (kd = kdOf (ki % 4)) := by
    have : ki % 4 < 4 := Nat.mod_lt _ (by decide)
    refine ⟨kdOf (ki % 4), ?_, rfl⟩
    generalize ki % 4 = i at *
    match i, this with
    | 0, _ => rfl
    | 1, _ => rfl
    | 2, _ => rfl
    | 3, _ => rfl
  obtain ⟨rs, hrs, HRS⟩ : ∃ rs, [Value.string ⟨#[99, 111, 109, 112, 97, 110, 121]⟩, Value.string ⟨#[114, 97, 116, 105, 110, 103]⟩, Value.string ⟨#[]⟩][re % 3]? = some (Value.string rs) ∧ Hid (rs = rsOf (re % 3)) := by
    have : re % 3 < 3 := Nat.mod_lt _ (by decide)
    refine ⟨rsOf (re % 3), ?_, rfl⟩
    generalize re % 3 = i at *
    match i, this with
    | 0, _ => rfl
    | 1, _ => rfl
    | 2, _ => rfl
  have HQ : Hid (9223372036854775807 - sh / 2 < q) := hq
  clear hq
  obtain ⟨i1, z1, hi1, hz11, hz12⟩ := info81
  obtain ⟨i0, hi0, hz01, hz02, hz03⟩ := info_parts info59
  have hmm := @run_makeMap Ybaf.prog
  go_enter Ybaf.func5, Ybaf.ntmps5
  go_wp2_with (at_make; refine wpList_make_full _ rfl (.tmp 53) (.tmp 53) 37 rfl 0 81 i1 (.agg z1) i1.size Ybaf.underlying37 hi1 hz11 rfl .i64 .i64 _ _ n rfl rfl rfl rfl (by have := Nat.mul_le_mul hz12 n8; omega) (by unfold maxLen; omega) (Nat.zero_le _) ?_)
  intro wa hown hgrow
  have Ba : Hid (Out (fun _ => False) w wa) := ((((Out.refl _ w).alloc _).alloc _).alloc _).grown hgrow (fun k hk => by cases hk)
  have Bxa : Hid (Bx wa w.heap.size q hol false y) := by
    have hb : wa.heap[w.heap.size]? = (((w.alloc (.cells (cs sh q hol np po ki re false y) 29 (0, 0))))).heap[w.heap.size]? := by
      rw [hgrow.block _ (by simp; omega) (by simp), Below.heap_alloc _ _ _ (by simp; omega), Below.heap_alloc _ _ _ (by simp)]
      rfl
    refine Bx.of_block ?_ hb
    unfold cs
    constructor <;> go_simp
  have hza : w.heap.size + 3 < wa.heap.size := by
    obtain ⟨_, h⟩ := hown
    rcases h with ⟨h, _⟩ | ⟨g, c', cur, hv, _, hg, _⟩
    · cases h
    · cases hv
      exact (Array.getElem?_eq_some_iff.1 hg).1
  clear hown hgrow hi1 hz11 hz12 hkd hrs
  obtain ⟨b1, b2, b7, b8⟩ := Bxa.out
  go_wp2_with (at_make; refine wpList_make_full _ rfl (.tmp 61) (.tmp 61) 30 rfl 0 59 i0 (.agg #[.int .i64 0, .int .i64 0, .int .i64 0, .int .i64 0, .int .i64 0, .int .i64 0]) 6 Ybaf.underlying30 hi0 hz01 hz02 .i64 .i64 _ _ n rfl rfl rfl rfl (by rw [hz03]; omega) (by unfold maxLen; omega) (Nat.zero_le _) ?_)
  intro wb hown hgrow
  have Bb : Hid (Out (fun _ => False) w wb) := (((Ba.out.alloc _).alloc _).alloc _).grown hgrow (fun k hk => by cases hk)
  have hzb : wa.heap.size + 3 < wb.heap.size := by
    have := (fig_made hown).lt
    simpa using this
  have Fb : Hid (Fig wb (wa.heap.size + 3) (List.replicate (n * 6) 0)) := fig_made hown
  have Bxb : Hid (Bx wb w.heap.size q hol false y) := Bxa.out.of_block (by
    rw [hgrow.block _ (by simp; omega) (by simp), Below.heap_alloc _ _ _ (by simp; omega), Below.heap_alloc _ _ _ (by simp; omega), Below.heap_alloc _ _ _ (by omega)])
  have Hpb : Hid (Hp wb (wa.heap.size + 2) (wa.heap.size + 1) wa.heap.size (some ⟨w.heap.size + 3, 0, none⟩) n (sh / 2)) := by
    have hb : ∀ i, i < wa.heap.size + 3 → wb.heap[i]? = _ := fun i hi => hgrow.block i (by simpa using hi) (by simp)
    refine Hp.of_blocks (w := _) ?_ (hb _ (by omega)) (hb _ (by omega))
    constructor <;> go_simp
  have Mb : Hid (Mp0 wb (wa.heap.size + 1)) := by
    refine mp0_of ?_
    rw [hgrow.block _ (by simp) (by simp), Below.heap_alloc _ _ _ (by simp)]
    have := heap_alloc_new (wa.alloc (.cells #[.string ⟨#[]⟩, .string ⟨#[]⟩, .slice (some ⟨w.heap.size + 1 + 1 + 1, 0, none⟩) n n, .int .i64 0, .int .i64 0, .slice none 0 0, .pointer none, .pointer none, .map none, .map none, .pointer none, .int .i64 0, .pointer none] 47 (0, 0))) (.map #[] 0)
    simpa using this
  clear hown hgrow
  clear b1 b2 b7 b8
  obtain ⟨b1, b2, b7, b8⟩ := Bxb.out
  obtain ⟨h6, h7, hz, p2⟩ := Hpb.out
  clear Bxa Ba hmm
  clear h6 h7 hz p2
  generalize wa.heap.size = N at hza hzb Fb Hpb Mb ⊢
  clear wa
  generalize hgw : N + 1 + 1 + 1 = gw at ⊢
  generalize hH : N + 1 + 1 = H at ⊢
  generalize hM : N + 1 = M at ⊢
  have HN : Hid (H = N + 2 ∧ M = N + 1 ∧ gw = N + 3) := ⟨hH.symm, hM.symm, hgw.symm⟩
  rw [show N + 3 = gw from hgw] at Fb hzb
  rw [show N + 1 = M from hM, show N + 2 = H from hH] at Hpb
  rw [show N + 1 = M from hM] at Mb
  clear hgw hH hM
  obtain ⟨h6, h7, hz, p2⟩ := Hpb.out
  have hr := HQ.out
  go_wp2_with fail
  refine (count_refuse F kd hol rs q k y (sh / 2) H N _ ?_ ?_ ?_ ?_ ?_ ?_).mono ?_
  · show F.answers wb.tape
    rw [Bb.out.tape]
    exact hF
  · simp
    have := HN.out
    omega
  · rw [World.cell?_of_block (Below.heap_alloc _ _ _ (by simp; have := HN.out; omega))]
    exact h7
  · have := HN.out
    omega
  · have := HN.out
    omega
  · exact hr
  rintro e w' ⟨a, rfl, hb⟩
  have hblk : Hid (∀ i, i < wb.heap.size → w'.heap[i]? = wb.heap[i]?) := fun i hi => (hb.block i (by simp; have := HN.out; omega)).trans (Below.heap_alloc _ _ _ hi)
  have hB : Hid (Below w.heap.size w w') := (Bb.out.below (Nat.le_refl _) (fun i h => h.elim)).trans ((Below.alloc (Below.refl _ wb) (by have := HN.out; omega) _).trans (hb.mono (by simp; have := HN.out; omega)))
  have hlen : ∀ ty, (Builtin.len_ #[49] ty #[.map (some M)]).run Ybaf.prog w' = .ok (.int .i64 0) w' := fun ty => (Mb.out.of_block (hblk.out _ (by have := HN.out; omega))).len ty
  clear b1 b2 b7 b8 h6 h7 hz p2 hb
  obtain ⟨b1, b2, b7, b8⟩ := Bxb.out.of_block (hblk.out _ (by have := HN.out; omega))
  obtain ⟨h6, h7, hz, p2⟩ := Hpb.out.of_blocks (hblk.out _ (by have := HN.out; omega)) (hblk.out _ (by have := HN.out; omega))
  go_wp2
  go_ret
  exact ⟨rfl, hB.out⟩

end Go.Proofs.YbulkcyqaFmt
