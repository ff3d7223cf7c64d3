/-
  THE LAW (function 5), figures before, and count refuses.
-/
import Derived.Test.YbulkcyqaFmtSix
namespace Go.Proofs.YbulkcyqaFmt
set_option linter.unusedVariables false
set_option linter.unusedSimpArgs false
open Go.RowKit Go.Extern.Stop Go.Stop Go.Extern
attribute [local go_sem] eql30 eql69 neq69 neq59 neq71

set_option maxHeartbeats 4000000 in
set_option maxRecDepth 100000 in
theorem law_tr (F : Interp) (sh q y : Int) (hol : ByteArray) (np po ki re : Nat) (pa : Option Addr) (len cap : Nat) (w : World) (hF : F.answers w.tape) (hs : hol.size ≤ maxLen)
    (s0 : 0 ≤ sh) (s1 : sh ≤ 18446744073709551615) (q0 : -9223372036854775808 ≤ q) (q1 : q ≤ 9223372036854775807) (n1 : np ≤ 255) (p1 : po ≤ 255) (k1 : ki ≤ 255) (r1 : re ≤ 255)
    (pf : Nat → Nat → Int) (hpf : ∀ i, i < len → ∃ b o, pa = some ⟨b, o, none⟩ ∧ b < w.heap.size ∧ ∀ j, j < 6 → w.cell? ⟨b, o + i * 6 + j, none⟩ = some (.int .i64 (pf i j)))
    (hq : 9223372036854775807 - sh / 2 < q) :
    Calls Ybaf.prog 5 #[.agg (cs sh q hol np po ki re true y), .slice pa len cap] w fun e w' => e = .returned (.bool true) ∧ Below w.heap.size w w' := by
  unfold cs
  obtain ⟨n, hn⟩ : ∃ n : Nat, 1 + (np : Int) % 8 = (n : Int) := ⟨1 + np % 8, by omega⟩
  obtain ⟨k, hk⟩ : ∃ k : Nat, (po : Int) % (n : Int) = (k : Int) := ⟨po % n, by omega⟩
  have n0 : 1 ≤ n := by omega
  have n8 : n ≤ 8 := by omega
  have kn : k < n := by
    have := Int.emod_lt_of_pos (po : Int) (show (0 : Int) < (n : Int) by omega)
    omega
  obtain ⟨kd, hkd, HKD⟩ : ∃ kd, [Value.string ⟨#[117, 110, 108, 111, 99, 107]⟩, Value.string ⟨#[100, 101, 102, 101, 114]⟩, Value.string ⟨#[102, 111, 114, 102, 101, 105, 116]⟩, Value.string ⟨#[114, 101, 115, 117, 108, 116]⟩][ki % 4]? = some (Value.string kd) ∧ Hid (kd = kdOf (ki % 4)) := by
    have : ki % 4 < 4 := Nat.mod_lt _ (by decide)
    refine ⟨kdOf (ki % 4), ?_, rfl⟩
    generalize ki % 4 = i at *
    match i, this with
    | 0, _ => rfl
    | 1, _ => rfl
    | 2, _ => rfl
    | 3, _ => rfl
  obtain ⟨rs, hrs, HRS⟩ : ∃ rs, [Value.string ⟨#[99, 111, 109, 112, 97, 110, 121]⟩, Value.string ⟨#[114, 97, 116, 105, 110, 103]⟩, Value.string ⟨#[]⟩][re % 3]? = some (Value.string rs) ∧ Hid (rs = rsOf (re % 3)) := by
    have : re % 3 < 3 := Nat.mod_lt _ (by decide)
    refine ⟨rsOf (re % 3), ?_, rfl⟩
    generalize re % 3 = i at *
    match i, this with
    | 0, _ => rfl
    | 1, _ => rfl
    | 2, _ => rfl
  have HQ : Hid (9223372036854775807 - sh / 2 < q) := hq
  clear hq
  have HPF : Hid (∀ i, i < len → ∃ b o, pa = some ⟨b, o, none⟩ ∧ b < w.heap.size ∧ ∀ j, j < 6 → w.cell? ⟨b, o + i * 6 + j, none⟩ = some (.int .i64 (pf i j))) := hpf
  clear hpf
  obtain ⟨i1, z1, hi1, hz11, hz12⟩ := info81
  obtain ⟨i0, hi0, hz01, hz02, hz03⟩ := info_parts info59
  have hmm := @run_makeMap Ybaf.prog
  go_enter Ybaf.func5, Ybaf.ntmps5
  go_wp2_with (at_make; refine wpList_make_full _ rfl (.tmp 53) (.tmp 53) 37 rfl 0 81 i1 (.agg z1) i1.size Ybaf.underlying37 hi1 hz11 rfl .i64 .i64 _ _ n rfl rfl rfl rfl (by have := Nat.mul_le_mul hz12 n8; omega) (by unfold maxLen; omega) (Nat.zero_le _) ?_)
  intro wa hown hgrow
  have Ba : Hid (Out (fun _ => False) w wa) := ((((Out.refl _ w).alloc _).alloc _).alloc _).grown hgrow (fun k hk => by cases hk)
  have Bxa : Hid (Bx wa w.heap.size q hol true y) := by
    have hb : wa.heap[w.heap.size]? = (((w.alloc (.cells (cs sh q hol np po ki re true y) 29 (0, 0))))).heap[w.heap.size]? := by
      rw [hgrow.block _ (by simp; omega) (by simp), Below.heap_alloc _ _ _ (by simp; omega), Below.heap_alloc _ _ _ (by simp)]
      rfl
    refine Bx.of_block ?_ hb
    unfold cs
    constructor <;> go_simp
  have hza : w.heap.size + 3 < wa.heap.size := by
    obtain ⟨_, h⟩ := hown
    rcases h with ⟨h, _⟩ | ⟨g, c', cur, hv, _, hg, _⟩
    · cases h
    · cases hv
      exact (Array.getElem?_eq_some_iff.1 hg).1
  clear hown hgrow hi1 hz11 hz12 hkd hrs
  obtain ⟨b1, b2, b7, b8⟩ := Bxa.out
  go_wp2_with (at_make; refine wpList_make_full _ rfl (.tmp 61) (.tmp 61) 30 rfl 0 59 i0 (.agg #[.int .i64 0, .int .i64 0, .int .i64 0, .int .i64 0, .int .i64 0, .int .i64 0]) 6 Ybaf.underlying30 hi0 hz01 hz02 .i64 .i64 _ _ n rfl rfl rfl rfl (by rw [hz03]; omega) (by unfold maxLen; omega) (Nat.zero_le _) ?_)
  intro wb hown hgrow
  have Bb : Hid (Out (fun _ => False) w wb) := (((Ba.out.alloc _).alloc _).alloc _).grown hgrow (fun k hk => by cases hk)
  have hzb : wa.heap.size + 3 < wb.heap.size := by
    have := (fig_made hown).lt
    simpa using this
  have Fb : Hid (Fig wb (wa.heap.size + 3) (List.replicate (n * 6) 0)) := fig_made hown
  have Bxb : Hid (Bx wb w.heap.size q hol true y) := Bxa.out.of_block (by
    rw [hgrow.block _ (by simp; omega) (by simp), Below.heap_alloc _ _ _ (by simp; omega), Below.heap_alloc _ _ _ (by simp; omega), Below.heap_alloc _ _ _ (by omega)])
  have Hpb : Hid (Hp wb (wa.heap.size + 2) (wa.heap.size + 1) wa.heap.size (some ⟨w.heap.size + 3, 0, none⟩) n (sh / 2)) := by
    have hb : ∀ i, i < wa.heap.size + 3 → wb.heap[i]? = _ := fun i hi => hgrow.block i (by simpa using hi) (by simp)
    refine Hp.of_blocks (w := _) ?_ (hb _ (by omega)) (hb _ (by omega))
    constructor <;> go_simp
  have Mb : Hid (Mp0 wb (wa.heap.size + 1)) := by
    refine mp0_of ?_
    rw [hgrow.block _ (by simp) (by simp), Below.heap_alloc _ _ _ (by simp)]
    have := heap_alloc_new (wa.alloc (.cells #[.string ⟨#[]⟩, .string ⟨#[]⟩, .slice (some ⟨w.heap.size + 1 + 1 + 1, 0, none⟩) n n, .int .i64 0, .int .i64 0, .slice none 0 0, .pointer none, .pointer none, .map none, .map none, .pointer none, .int .i64 0, .pointer none] 47 (0, 0))) (.map #[] 0)
    simpa using this
  clear hown hgrow
  clear b1 b2 b7 b8
  obtain ⟨b1, b2, b7, b8⟩ := Bxb.out
  obtain ⟨h6, h7, hz, p2⟩ := Hpb.out
  clear Bxa Ba hmm
  clear h6 h7 hz p2
  generalize wa.heap.size = N at hza hzb Fb Hpb Mb ⊢
  clear wa
  generalize hgw : N + 1 + 1 + 1 = gw at ⊢
  generalize hH : N + 1 + 1 = H at ⊢
  generalize hM : N + 1 = M at ⊢
  have HN : Hid (H = N + 2 ∧ M = N + 1 ∧ gw = N + 3) := ⟨hH.symm, hM.symm, hgw.symm⟩
  rw [show N + 3 = gw from hgw] at Fb hzb
  rw [show N + 1 = M from hM, show N + 2 = H from hH] at Hpb
  rw [show N + 1 = M from hM] at Mb
  clear hgw hH hM
  obtain ⟨h6, h7, hz, p2⟩ := Hpb.out
  generalize hgs : wb.heap.size = gs at hzb
  have HGS : Hid (wb.heap.size = gs) := hgs
  clear hgs
  go_upto_if 64 with fail
  go_cut [15, 16] from 65 (fun s15 s16 wx => s15 = .slice (some ⟨gs, 0, none⟩) n n ∧ ∃ L : List Int, L.length = n * 6 ∧ Fig wx gs L ∧ Fig wx gw L ∧ Bx wx w.heap.size q hol true y ∧ Hp wx H M N (some ⟨w.heap.size + 3, 0, none⟩) n (sh / 2) ∧ Mp1 wx M hol (.slice (some ⟨gs, 0, none⟩) n n) ∧ Out (fun _ => False) w wx)
  case first =>
    go_wp2_with (at_make; refine wpList_make_full _ rfl (.tmp 65) (.tmp 65) 30 rfl 0 59 i0 (.agg #[.int .i64 0, .int .i64 0, .int .i64 0, .int .i64 0, .int .i64 0, .int .i64 0]) 6 Ybaf.underlying30 hi0 hz01 hz02 .i64 .i64 _ _ n rfl rfl rfl rfl (by rw [hz03]; omega) (by unfold maxLen; omega) (Nat.zero_le _) ?_)
    intro wc hown hgrow
    have hbc : Hid (∀ i, i < gs → wc.heap[i]? = wb.heap[i]?) := fun i hi => hgrow.block i (by rw [HGS.out]; exact hi) (by simp)
    have Oc : Hid (Out (fun _ => False) w wc) := Bb.out.grown hgrow (fun k hk => by cases hk)
    have Fc : Hid (Fig wc gs (List.replicate (n * 6) 0)) := by
      have h := fig_made hown
      rw [HGS.out] at h
      exact h
    have Bxc : Hid (Bx wc w.heap.size q hol true y) := Bxb.out.of_block (hbc.out _ (by have := HN.out; omega))
    have Hpc : Hid (Hp wc H M N (some ⟨w.heap.size + 3, 0, none⟩) n (sh / 2)) := Hpb.out.of_blocks (hbc.out _ (by have := HN.out; omega)) (hbc.out _ (by have := HN.out; omega))
    have Mc : Hid (Mp0 wc M) := Mb.out.of_block (hbc.out _ (by have := HN.out; omega))
    have Gc : Hid (Fig wc gw (List.replicate (n * 6) 0)) := Fb.out.of_block (hbc.out _ (by have := HN.out; omega))
    clear hown hgrow hbc b1 b2 b7 b8 h6 h7 hz p2
    rw [HGS.out]
    go_wp2_with fail
    go_loopw [16] (fun i wr => ∃ (j : Nat) (L : List Int), j ≤ n ∧ i = .int .i64 j ∧ L.length = n * 6 ∧ Fig wr gs L ∧ Fig wr gw L ∧ Bx wr w.heap.size q hol true y ∧ Hp wr H M N (some ⟨w.heap.size + 3, 0, none⟩) n (sh / 2) ∧ Mp0 wr M ∧ Out (fun _ => False) w wr) (fun i _ => n + 1 - (intOf i).toNat)
    case atStart => exact ⟨0, List.replicate (n * 6) 0, by omega, rfl, by simp, Fc.out, Gc.out, Bxc.out, Hpc.out, Mc.out, Oc.out⟩
    case round =>
      obtain ⟨j, L, hj, rfl, hL, HFs', HFw', HBx', HHp', HMp', HO'⟩ := hrel
      have HFs : Hid (Fig wr gs L) := HFs'
      have HFw : Hid (Fig wr gw L) := HFw'
      have HBx : Hid (Bx wr w.heap.size q hol true y) := HBx'
      have HHp : Hid (Hp wr H M N (some ⟨w.heap.size + 3, 0, none⟩) n (sh / 2)) := HHp'
      have HMp : Hid (Mp0 wr M) := HMp'
      have HO : Hid (Out (fun _ => False) w wr) := HO'
      clear HFs' HFw' HBx' HHp' HMp' HO' Fc Gc Bxc Hpc Mc Oc
      obtain ⟨b1, b2, b7, b8⟩ := HBx.out
      obtain ⟨h6, h7, hz, p2⟩ := HHp.out
      have hgg : gs ≠ gw := by have := HN.out; omega
      by_cases hjn : j < n
      · have hjn' : (j : Int) < (n : Int) := by omega
        by_cases hjl : j < len
        · have hjl' : (j : Int) < (len : Int) := by omega
          obtain ⟨pb, po', rfl, hpb, hcs⟩ := HPF.out j hjl
          have hcs1 : Hid (∀ t, t < 6 → wr.cell? ⟨pb, po' + j * 6 + t, none⟩ = some (.int .i64 (pf j t))) := fun t ht => by
            rw [World.cell?_of_block (HO.out.block pb hpb (fun h => h))]
            exact hcs t ht
          have HPB : Hid (pb < w.heap.size) := hpb
          clear hcs hpb
          go_wp2_with (first | refine wpList_load6v rfl (.tmp 82) rfl pb (po' + j * 6) (pf j) rfl hcs1.out ?_ | refine wpList_store6 rfl (.tmp 84) (.tmp 83) rfl gs j L _ _ _ _ _ _ rfl rfl HFs.out (by omega) ?_)
          intro wr1 F1' N1'
          have F1 : Hid (Fig wr1 gs (put6 L j (pf j 0) (pf j 1) (pf j 2) (pf j 3) (pf j 4) (pf j 5))) := F1'
          have N1 : Hid (But gs wr wr1) := N1'
          clear F1' N1'
          have hcs2 : Hid (∀ t, t < 6 → wr1.cell? ⟨pb, po' + j * 6 + t, none⟩ = some (.int .i64 (pf j t))) := fun t ht => by
            rw [World.cell?_of_block (N1.out.block pb (by have := HPB.out; have := HN.out; omega))]
            exact hcs1.out t ht
          have HFw1 : Hid (Fig wr1 gw L) := HFw.out.of_block (N1.out.block _ (Ne.symm hgg))
          go_wp2_with (first | refine wpList_load6v rfl (.tmp 89) rfl pb (po' + j * 6) (pf j) rfl hcs2.out ?_ | refine wpList_store6 rfl (.tmp 91) (.tmp 90) rfl gw j L _ _ _ _ _ _ rfl rfl HFw1.out (by omega) ?_)
          intro wr2 F2' N2'
          have F2 : Hid (Fig wr2 gw (put6 L j (pf j 0) (pf j 1) (pf j 2) (pf j 3) (pf j 4) (pf j 5))) := F2'
          have N2 : Hid (But gw wr1 wr2) := N2'
          clear F2' N2'
          go_wp2
          go_roundw
          case rel =>
            exact ⟨j + 1, put6 L j (pf j 0) (pf j 1) (pf j 2) (pf j 3) (pf j 4) (pf j 5), by omega, by go_num, by rw [length_put6]; exact hL, F1.out.of_block (N2.out.block _ hgg), F2.out,
              (HBx.out.of_block (N1.out.block _ (by have := HN.out; omega))).of_block (N2.out.block _ (by have := HN.out; omega)),
              (HHp.out.of_blocks (N1.out.block _ (by have := HN.out; omega)) (N1.out.block _ (by have := HN.out; omega))).of_blocks (N2.out.block _ (by have := HN.out; omega)) (N2.out.block _ (by have := HN.out; omega)),
              (HMp.out.of_block (N1.out.block _ (by have := HN.out; omega))).of_block (N2.out.block _ (by have := HN.out; omega)),
              N2.out.out (N1.out.out HO.out (Or.inr (by have := HN.out; omega))) (Or.inr (by have := HN.out; omega))⟩
          case measure => simp [intOf]; omega
        · have hjl' : ¬ (j : Int) < (len : Int) := by omega
          obtain ⟨wd, HU, Md', Gd'⟩ := (HMp.out.of_block (w' := wr.drew) rfl).store hs (.slice (some ⟨gs, 0, none⟩) n n)
          have Md : Hid (Mp1 wd M hol (.slice (some ⟨gs, 0, none⟩) n n)) := Md'
          have Gd : Hid (wr.drew.grownBy wd (some M)) := Gd'
          clear Md' Gd'
          have HLT : Hid (gs < wr.heap.size) := HFs.out.lt
          go_wp2
          go_region
          go_wp2
          go_meet
          case rel =>
            have hlt := HLT.out
            exact ⟨rfl, L, hL, HFs.out.of_block (Gd.out.block _ hlt (by intro h; cases h; have := HN.out; omega)), HFw.out.of_block (Gd.out.block _ (by show _ < wr.heap.size; have := HN.out; omega) (by intro h; cases h; have := HN.out; omega)),
              HBx.out.of_block (Gd.out.block _ (by show _ < wr.heap.size; have := HN.out; omega) (by intro h; cases h; have := HN.out; omega)),
              HHp.out.of_blocks (Gd.out.block _ (by show _ < wr.heap.size; have := HN.out; omega) (by intro h; cases h; have := HN.out; omega)) (Gd.out.block _ (by show _ < wr.heap.size; have := HN.out; omega) (by intro h; cases h; have := HN.out; omega)),
              Md.out, (HO.out.drewN 1).grown Gd.out (fun i hi => by cases hi; exact Or.inr (by have := HN.out; omega))⟩
      · have hjn' : ¬ (j : Int) < (n : Int) := by omega
        obtain ⟨wd, HU, Md', Gd'⟩ := (HMp.out.of_block (w' := wr.drew) rfl).store hs (.slice (some ⟨gs, 0, none⟩) n n)
        have Md : Hid (Mp1 wd M hol (.slice (some ⟨gs, 0, none⟩) n n)) := Md'
        have Gd : Hid (wr.drew.grownBy wd (some M)) := Gd'
        clear Md' Gd'
        have HLT : Hid (gs < wr.heap.size) := HFs.out.lt
        go_wp2
        go_region
        go_wp2
        go_meet
        case rel =>
            have hlt := HLT.out
            exact ⟨rfl, L, hL, HFs.out.of_block (Gd.out.block _ hlt (by intro h; cases h; have := HN.out; omega)), HFw.out.of_block (Gd.out.block _ (by show _ < wr.heap.size; have := HN.out; omega) (by intro h; cases h; have := HN.out; omega)),
              HBx.out.of_block (Gd.out.block _ (by show _ < wr.heap.size; have := HN.out; omega) (by intro h; cases h; have := HN.out; omega)),
              HHp.out.of_blocks (Gd.out.block _ (by show _ < wr.heap.size; have := HN.out; omega) (by intro h; cases h; have := HN.out; omega)) (Gd.out.block _ (by show _ < wr.heap.size; have := HN.out; omega) (by intro h; cases h; have := HN.out; omega)),
              Md.out, (HO.out.drewN 1).grown Gd.out (fun i hi => by cases hi; exact Or.inr (by have := HN.out; omega))⟩
  case rest =>
    obtain ⟨hs15, L, hL, q1', q2', q3', q4', q5', q6'⟩ := hcut
    subst hs15
    have Fs : Hid (Fig wc gs L) := q1'
    have Fw : Hid (Fig wc gw L) := q2'
    have Bxd : Hid (Bx wc w.heap.size q hol true y) := q3'
    have Hpd : Hid (Hp wc H M N (some ⟨w.heap.size + 3, 0, none⟩) n (sh / 2)) := q4'
    have Md : Hid (Mp1 wc M hol (.slice (some ⟨gs, 0, none⟩) n n)) := q5'
    have Od : Hid (Out (fun _ => False) w wc) := q6'
    have hlt : gs < wc.heap.size := q1'.lt
    clear q1' q2' q3' q4' q5' q6' b1 b2 b7 b8 h6 h7 hz p2
    clear Bb Fb Bxb Hpb Mb HGS
    obtain ⟨b1, b2, b7, b8⟩ := Bxd.out
    obtain ⟨h6, h7, hz, p2⟩ := Hpd.out
    have hr := HQ.out
    go_wp2_with fail
    refine (count_refuse F kd hol rs q k y (sh / 2) H N _ ?_ ?_ ?_ ?_ ?_ ?_).mono ?_
    · show F.answers wc.tape
      rw [Od.out.tape]
      exact hF
    · simp
      have := HN.out
      omega
    · rw [World.cell?_of_block (Below.heap_alloc _ _ _ (by simp; have := HN.out; omega))]
      exact h7
    · omega
    · omega
    · exact hr
    rintro e w' ⟨a, rfl, hb⟩
    have hblk : Hid (∀ i, i < wc.heap.size → w'.heap[i]? = wc.heap[i]?) := fun i hi => (hb.block i (by simp; omega)).trans (Below.heap_alloc _ _ _ hi)
    have HBel : Hid (Below w.heap.size w w') := (Od.out.below (Nat.le_refl _) (fun i h => h.elim)).trans ((Below.alloc (Below.refl _ wc) (by have := HN.out; omega) _).trans (hb.mono (by simp; have := HN.out; omega)))
    have HG2 : Hid (Fig w' gs L) := Fs.out.of_block (hblk.out _ hlt)
    have HF2 : Hid (Fig w' gw L) := Fw.out.of_block (hblk.out _ (by have := HN.out; omega))
    have HLen : Hid (L.length = n * 6) := hL
    have M2 : Hid (Mp1 w' M hol (.slice (some ⟨gs, 0, none⟩) n n)) := Md.out.of_block (hblk.out _ (by have := HN.out; omega))
    have hlen : ∀ ty, (Builtin.len_ #[49] ty #[.map (some M)]).run Ybaf.prog w' = .ok (.int .i64 1) w' := fun ty => M2.out.len ty
    have hlook : ∀ m, (Instr.lookup 49 (.map (some M)) (.string hol) false).run Ybaf.prog (w'.drewN m) = .ok (.slice (some ⟨gs, 0, none⟩) n n) (w'.drewN m) := fun m => (M2.out.of_block (w' := w'.drewN m) rfl).look hs
    clear b1 b2 b7 b8 h6 h7 hz p2 hb hL
    obtain ⟨b1, b2, b7, b8⟩ := Bxd.out.of_block (hblk.out _ (by have := HN.out; omega))
    obtain ⟨h6, h7, hz, p2⟩ := Hpd.out.of_blocks (hblk.out _ (by have := HN.out; omega)) (hblk.out _ (by have := HN.out; omega))
    go_wp2
    go_quiet (fail)
    clear hlook hlen
    go_wp2
    go_loopw [20] (fun i wr => ∃ j : Nat, j ≤ n ∧ i = .int .i64 j ∧ Sm w' wr) (fun i _ => n + 1 - (intOf i).toNat)
    case atStart => exact ⟨0, by omega, rfl, ⟨rfl, rfl, rfl, rfl⟩⟩
    case round =>
      obtain ⟨j, hj, rfl, hsm'⟩ := hrel
      have hsm : Hid (Sm w' wr) := hsm'
      clear hsm'
      by_cases hjn : j < n
      · have hjn' : (j : Int) < (n : Int) := by omega
        have ca := hsm.out.cells HG2.out HLen.out hjn
        have cb := hsm.out.cells HF2.out HLen.out hjn
        generalize hv : (fun t => (L).getD (j * 6 + t) 0) = v
        have ev : ∀ t, (L).getD (j * 6 + t) 0 = v t := fun t => by rw [← hv]
        have ca0 : wr.cell? ⟨gs, j * 6, none⟩ = some (.int .i64 (v 0)) := by rw [← ev 0]; exact ca 0 (by omega)
        have ca1 : wr.cell? ⟨gs, j * 6 + 1, none⟩ = some (.int .i64 (v 1)) := by rw [← ev 1]; exact ca 1 (by omega)
        have ca2 : wr.cell? ⟨gs, j * 6 + 2, none⟩ = some (.int .i64 (v 2)) := by rw [← ev 2]; exact ca 2 (by omega)
        have ca3 : wr.cell? ⟨gs, j * 6 + 3, none⟩ = some (.int .i64 (v 3)) := by rw [← ev 3]; exact ca 3 (by omega)
        have ca4 : wr.cell? ⟨gs, j * 6 + 4, none⟩ = some (.int .i64 (v 4)) := by rw [← ev 4]; exact ca 4 (by omega)
        have ca5 : wr.cell? ⟨gs, j * 6 + 5, none⟩ = some (.int .i64 (v 5)) := by rw [← ev 5]; exact ca 5 (by omega)
        have cb0 : wr.cell? ⟨gw, j * 6, none⟩ = some (.int .i64 (v 0)) := by rw [← ev 0]; exact cb 0 (by omega)
        have cb1 : wr.cell? ⟨gw, j * 6 + 1, none⟩ = some (.int .i64 (v 1)) := by rw [← ev 1]; exact cb 1 (by omega)
        have cb2 : wr.cell? ⟨gw, j * 6 + 2, none⟩ = some (.int .i64 (v 2)) := by rw [← ev 2]; exact cb 2 (by omega)
        have cb3 : wr.cell? ⟨gw, j * 6 + 3, none⟩ = some (.int .i64 (v 3)) := by rw [← ev 3]; exact cb 3 (by omega)
        have cb4 : wr.cell? ⟨gw, j * 6 + 4, none⟩ = some (.int .i64 (v 4)) := by rw [← ev 4]; exact cb 4 (by omega)
        have cb5 : wr.cell? ⟨gw, j * 6 + 5, none⟩ = some (.int .i64 (v 5)) := by rw [← ev 5]; exact cb 5 (by omega)
        clear ca cb ev hv
        go_wp2
        go_quiet (fail)
        go_wp2
        go_roundw
        case rel => exact ⟨j + 1, by omega, by go_num, ⟨hsm.out.os, hsm.out.tape, hsm.out.output, hsm.out.heap⟩⟩
        case measure => simp [intOf]; omega
      · have hjn' : ¬ (j : Int) < (n : Int) := by omega
        go_wp2
        go_ret
        exact ⟨rfl, hsm.out.below HBel.out⟩

end Go.Proofs.YbulkcyqaFmt
