/-
  'Rows.LawS5005CCountToldSaid': the ways of the law together, the row, the card. fmt's text is told by a function of the authors' own (the kit's FmtText); nothing here says what the text is: the law only asks that there is an error.
-/
import Derived.Test.YbulkcyqaFmtRows
import Derived.Test.YbulkcyqaFmtCards
import Derived.Test.YbulkcyqaFmtFR
import Derived.Test.YbulkcyqaFmtFA
import Derived.Test.YbulkcyqaFmtTR
import Derived.Test.YbulkcyqaFmtTA
import Derived.Stop.JoinedTold
import Derived.SevenToldRow
import Derived.ProofKit
import Derived.OpenShut
import Derived.ShutString
import Derived.ChangeOld
import Derived.Below
import Derived.Deep.Slices
import Derived.ChangeArms
namespace Go.Proofs.YbulkcyqaFmt
set_option linter.unusedVariables false
set_option linter.unusedSimpArgs false
open Go.ChangeShapes Go.WideShapes Go.ChangeAt Go.RowKit
open Go.Extern.Stop Go.Stop Go.Extern

/-- The law, at every case and every slice of figures. -/
theorem law_all (F : Interp) (sh q y : Int) (hol : ByteArray) (np po ki re : Nat) (pr : Bool) (pa : Option Addr) (len cap : Nat) (w : World) (hF : F.answers w.tape) (hs : hol.size ≤ maxLen)
    (s0 : 0 ≤ sh) (s1 : sh ≤ 18446744073709551615) (q0 : -9223372036854775808 ≤ q) (q1 : q ≤ 9223372036854775807) (n1 : np ≤ 255) (p1 : po ≤ 255) (k1 : ki ≤ 255) (r1 : re ≤ 255)
    (pf : Nat → Nat → Int) (hpf : ∀ i, i < len → ∃ b o, pa = some ⟨b, o, none⟩ ∧ b < w.heap.size ∧ ∀ j, j < 6 → w.cell? ⟨b, o + i * 6 + j, none⟩ = some (.int .i64 (pf i j))) :
    Calls Ybaf.prog 5 #[.agg (cs sh q hol np po ki re pr y), .slice pa len cap] w fun e w' => e = .returned (.bool true) ∧ Below w.heap.size w w' := by
  by_cases hq : 9223372036854775807 - sh / 2 < q
  · cases pr
    · exact law_fr F sh q y hol np po ki re pa len cap w hF hs s0 s1 q0 q1 n1 p1 k1 r1 hq
    · exact law_tr F sh q y hol np po ki re pa len cap w hF hs s0 s1 q0 q1 n1 p1 k1 r1 pf hpf hq
  · cases pr
    · exact law_fa F sh q y hol np po ki re pa len cap w hF hs s0 s1 q0 q1 n1 p1 k1 r1 hq
    · exact law_ta F sh q y hol np po ki re pa len cap w hF hs s0 s1 q0 q1 n1 p1 k1 r1 pf hpf hq

theorem cells27 : Ybaf.prog.cellsOf 27 = 1 := by kernel_rfl
theorem cells2 : Ybaf.prog.cellsOf 2 = 1 := by kernel_rfl
theorem cells9 : Ybaf.prog.cellsOf 9 = 1 := by kernel_rfl
theorem cells5 : Ybaf.prog.cellsOf 5 = 1 := by kernel_rfl
theorem cells4 : Ybaf.prog.cellsOf 4 = 1 := by kernel_rfl
theorem cells3 : Ybaf.prog.cellsOf 3 = 1 := by kernel_rfl
theorem cells29 : Ybaf.prog.cellsOf 29 = 9 := by kernel_rfl
theorem cells59 : Ybaf.prog.cellsOf 59 = 6 := by kernel_rfl

theorem list9 {α : Type} {l : List α} (h : l.length = 9) : ∃ a b c d e f g i j, l = [a, b, c, d, e, f, g, i, j] := by
  match l, h with
  | [a, b, c, d, e, f, g, i, j], _ => exact ⟨a, b, c, d, e, f, g, i, j, rfl⟩

theorem list6 {α : Type} {l : List α} (h : l.length = 6) : ∃ a b c d e f, l = [a, b, c, d, e, f] := by
  match l, h with
  | [a, b, c, d, e, f], _ => exact ⟨a, b, c, d, e, f, rfl⟩

/-- THE CASE THAT CAME IN, OPENED. -/
theorem open_case {H : Type} {enc : TypeId × Value → H} {w : World} {base : Nat} {spare : Nat → Bool} {held : Bool} {fuel : Nat} {l : List Value} {x : DataW H × List MemPlace} (h : DataW.trod enc Ybaf.prog w base spare held fuel 29 l = some x) :
    ∃ (sh q y : Int) (hol : ByteArray) (np po ki re : Nat) (pr : Bool), l = (cs sh q hol np po ki re pr y).toList ∧ hol.size ≤ maxLen ∧ 0 ≤ sh ∧ sh ≤ 18446744073709551615 ∧ -9223372036854775808 ≤ q ∧ q ≤ 9223372036854775807 ∧ np ≤ 255 ∧ po ≤ 255 ∧ ki ≤ 255 ∧ re ≤ 255 := by
  obtain ⟨xs, n, _, _, hl, hlen, hx⟩ := DataW.trod_struct Ybaf.underlying29 h
  rw [cells29] at hl
  obtain ⟨c0, c1, c2, c3, c4, c5, c6, c7, c8, rfl⟩ := list9 hl
  have hg : ∀ i, i < 9 → ∃ y, xs[i]? = some y := fun i hi => ⟨xs[i]'(by rw [hlen]; exact hi), List.getElem?_eq_getElem _⟩
  obtain ⟨y0, e0⟩ := hg 0 (by decide)
  obtain ⟨y1, e1⟩ := hg 1 (by decide)
  obtain ⟨y2, e2⟩ := hg 2 (by decide)
  obtain ⟨y3, e3⟩ := hg 3 (by decide)
  obtain ⟨y4, e4⟩ := hg 4 (by decide)
  obtain ⟨y5, e5⟩ := hg 5 (by decide)
  obtain ⟨y6, e6⟩ := hg 6 (by decide)
  obtain ⟨y7, e7⟩ := hg 7 (by decide)
  obtain ⟨y8, e8⟩ := hg 8 (by decide)
  have t0 : DataW.trod enc Ybaf.prog w base spare held n 27 [c0] = some y0 := by
    have h : DataW.trod enc Ybaf.prog w base spare held n 27 ((List.drop 0 [c0, c1, c2, c3, c4, c5, c6, c7, c8]).take (Ybaf.prog.cellsOf 27)) = some y0 := (hx 0 _ rfl).trans e0
    rw [cells27] at h
    exact h
  have t1 : DataW.trod enc Ybaf.prog w base spare held n 2 [c1] = some y1 := by
    have h : DataW.trod enc Ybaf.prog w base spare held n 2 ((List.drop 1 [c0, c1, c2, c3, c4, c5, c6, c7, c8]).take (Ybaf.prog.cellsOf 2)) = some y1 := (hx 1 _ rfl).trans e1
    rw [cells2] at h
    exact h
  have t2 : DataW.trod enc Ybaf.prog w base spare held n 9 [c2] = some y2 := by
    have h : DataW.trod enc Ybaf.prog w base spare held n 9 ((List.drop 2 [c0, c1, c2, c3, c4, c5, c6, c7, c8]).take (Ybaf.prog.cellsOf 9)) = some y2 := (hx 2 _ rfl).trans e2
    rw [cells9] at h
    exact h
  have t3 : DataW.trod enc Ybaf.prog w base spare held n 5 [c3] = some y3 := by
    have h : DataW.trod enc Ybaf.prog w base spare held n 5 ((List.drop 3 [c0, c1, c2, c3, c4, c5, c6, c7, c8]).take (Ybaf.prog.cellsOf 5)) = some y3 := (hx 3 _ rfl).trans e3
    rw [cells5] at h
    exact h
  have t4 : DataW.trod enc Ybaf.prog w base spare held n 5 [c4] = some y4 := by
    have h : DataW.trod enc Ybaf.prog w base spare held n 5 ((List.drop 4 [c0, c1, c2, c3, c4, c5, c6, c7, c8]).take (Ybaf.prog.cellsOf 5)) = some y4 := (hx 4 _ rfl).trans e4
    rw [cells5] at h
    exact h
  have t5 : DataW.trod enc Ybaf.prog w base spare held n 5 [c5] = some y5 := by
    have h : DataW.trod enc Ybaf.prog w base spare held n 5 ((List.drop 5 [c0, c1, c2, c3, c4, c5, c6, c7, c8]).take (Ybaf.prog.cellsOf 5)) = some y5 := (hx 5 _ rfl).trans e5
    rw [cells5] at h
    exact h
  have t6 : DataW.trod enc Ybaf.prog w base spare held n 5 [c6] = some y6 := by
    have h : DataW.trod enc Ybaf.prog w base spare held n 5 ((List.drop 6 [c0, c1, c2, c3, c4, c5, c6, c7, c8]).take (Ybaf.prog.cellsOf 5)) = some y6 := (hx 6 _ rfl).trans e6
    rw [cells5] at h
    exact h
  have t7 : DataW.trod enc Ybaf.prog w base spare held n 4 [c7] = some y7 := by
    have h : DataW.trod enc Ybaf.prog w base spare held n 4 ((List.drop 7 [c0, c1, c2, c3, c4, c5, c6, c7, c8]).take (Ybaf.prog.cellsOf 4)) = some y7 := (hx 7 _ rfl).trans e7
    rw [cells4] at h
    exact h
  have t8 : DataW.trod enc Ybaf.prog w base spare held n 3 [c8] = some y8 := by
    have h : DataW.trod enc Ybaf.prog w base spare held n 3 ((List.drop 8 [c0, c1, c2, c3, c4, c5, c6, c7, c8]).take (Ybaf.prog.cellsOf 3)) = some y8 := (hx 8 _ rfl).trans e8
    rw [cells3] at h
    exact h
  obtain ⟨z0, h0, _, w0⟩ := DataW.trod_int Ybaf.underlying27 t0
  obtain ⟨z1, h1, _, w1⟩ := DataW.trod_int Ybaf.underlying2 t1
  obtain ⟨z2, h2, _, w2⟩ := DataW.trod_string Ybaf.underlying9 t2
  obtain ⟨z3, h3, _, w3⟩ := DataW.trod_int Ybaf.underlying5 t3
  obtain ⟨z4, h4, _, w4⟩ := DataW.trod_int Ybaf.underlying5 t4
  obtain ⟨z5, h5, _, w5⟩ := DataW.trod_int Ybaf.underlying5 t5
  obtain ⟨z6, h6, _, w6⟩ := DataW.trod_int Ybaf.underlying5 t6
  obtain ⟨z7, h7, _⟩ := DataW.trod_bool Ybaf.underlying4 t7
  obtain ⟨z8, h8, _, w8⟩ := DataW.trod_int Ybaf.underlying3 t8
  cases h0; cases h1; cases h2; cases h3; cases h4; cases h5; cases h6; cases h7; cases h8
  simp [Lit.wf, IntKind.min, IntKind.max, IntKind.signed, IntKind.bits] at w0 w1 w3 w4 w5 w6
  obtain ⟨m3, rfl⟩ : ∃ m : Nat, z3 = (m : Int) := ⟨z3.toNat, by omega⟩
  obtain ⟨m4, rfl⟩ : ∃ m : Nat, z4 = (m : Int) := ⟨z4.toNat, by omega⟩
  obtain ⟨m5, rfl⟩ : ∃ m : Nat, z5 = (m : Int) := ⟨z5.toNat, by omega⟩
  obtain ⟨m6, rfl⟩ : ∃ m : Nat, z6 = (m : Int) := ⟨z6.toNat, by omega⟩
  exact ⟨z0, z1, z8, z2, m3, m4, m5, m6, z7, rfl, w2, by omega, by omega, by omega, by omega, by omega, by omega, by omega, by omega⟩

/-- THE FIGURES THAT CAME IN, OPENED. -/
theorem open_figs {H : Type} {enc : TypeId × Value → H} {w : World} {base : Nat} {spare : Nat → Bool} {held : Bool} {fuel : Nat} {pa : Option Addr} {len cap : Nat} {x : DataW H × List MemPlace} (h : DataW.trod enc Ybaf.prog w base spare held fuel 30 [.slice pa len cap] = some x) :
    ∃ pf : Nat → Nat → Int, ∀ i, i < len → ∃ b o, pa = some ⟨b, o, none⟩ ∧ b < w.heap.size ∧ ∀ j, j < 6 → w.cell? ⟨b, o + i * 6 + j, none⟩ = some (.int .i64 (pf i j)) := by
  rcases Deep.open_slice Ybaf.underlying30 h with ⟨h0, _⟩ | ⟨a, l, c, m, n, D, Pl, hcs, _, hlc, _, hm, _, hel⟩
  · simp only [List.cons.injEq, Value.slice.injEq, and_true] at h0
    exact ⟨fun _ _ => 0, fun i hi => by omega⟩
  · simp only [List.cons.injEq, Value.slice.injEq, and_true] at hcs
    obtain ⟨rfl, rfl, rfl⟩ := hcs
    rw [cells59] at hel
    have hcell : ∀ i, i < len → ∀ j, j < 6 → ∃ z, w.cell? ((a.add (i * 6)).add j) = some (.int .i64 z) := fun i hi j hj => by
      obtain ⟨cs', h1, h2⟩ := hel i (by rw [hm]; split <;> omega)
      obtain ⟨_, hlen', hc⟩ := World.cells?_some h1
      obtain ⟨xs, n', _, _, _, hxl, hx⟩ := DataW.trod_struct Ybaf.underlying59 h2
      rw [hc j hj]
      obtain ⟨v0, v1, v2, v3, v4, v5, rfl⟩ := list6 hlen'
      have hg : ∀ i, i < 6 → ∃ y, xs[i]? = some y := fun i hi => ⟨xs[i]'(by rw [hxl]; exact hi), List.getElem?_eq_getElem _⟩
      have hj' : j = 0 ∨ j = 1 ∨ j = 2 ∨ j = 3 ∨ j = 4 ∨ j = 5 := by omega
      clear hc h1 hel h2
      rcases hj' with rfl | rfl | rfl | rfl | rfl | rfl
      · obtain ⟨y, e⟩ := hg 0 (by decide)
        have t : DataW.trod enc Ybaf.prog w base spare held n' 2 ((List.drop 0 [v0, v1, v2, v3, v4, v5]).take (Ybaf.prog.cellsOf 2)) = some y := (hx 0 _ rfl).trans e
        rw [cells2] at t
        obtain ⟨z, hz, _⟩ := DataW.trod_int Ybaf.underlying2 t
        cases hz
        exact ⟨z, rfl⟩
      · obtain ⟨y, e⟩ := hg 1 (by decide)
        have t : DataW.trod enc Ybaf.prog w base spare held n' 2 ((List.drop 1 [v0, v1, v2, v3, v4, v5]).take (Ybaf.prog.cellsOf 2)) = some y := (hx 1 _ rfl).trans e
        rw [cells2] at t
        obtain ⟨z, hz, _⟩ := DataW.trod_int Ybaf.underlying2 t
        cases hz
        exact ⟨z, rfl⟩
      · obtain ⟨y, e⟩ := hg 2 (by decide)
        have t : DataW.trod enc Ybaf.prog w base spare held n' 2 ((List.drop 2 [v0, v1, v2, v3, v4, v5]).take (Ybaf.prog.cellsOf 2)) = some y := (hx 2 _ rfl).trans e
        rw [cells2] at t
        obtain ⟨z, hz, _⟩ := DataW.trod_int Ybaf.underlying2 t
        cases hz
        exact ⟨z, rfl⟩
      · obtain ⟨y, e⟩ := hg 3 (by decide)
        have t : DataW.trod enc Ybaf.prog w base spare held n' 2 ((List.drop 3 [v0, v1, v2, v3, v4, v5]).take (Ybaf.prog.cellsOf 2)) = some y := (hx 3 _ rfl).trans e
        rw [cells2] at t
        obtain ⟨z, hz, _⟩ := DataW.trod_int Ybaf.underlying2 t
        cases hz
        exact ⟨z, rfl⟩
      · obtain ⟨y, e⟩ := hg 4 (by decide)
        have t : DataW.trod enc Ybaf.prog w base spare held n' 2 ((List.drop 4 [v0, v1, v2, v3, v4, v5]).take (Ybaf.prog.cellsOf 2)) = some y := (hx 4 _ rfl).trans e
        rw [cells2] at t
        obtain ⟨z, hz, _⟩ := DataW.trod_int Ybaf.underlying2 t
        cases hz
        exact ⟨z, rfl⟩
      · obtain ⟨y, e⟩ := hg 5 (by decide)
        have t : DataW.trod enc Ybaf.prog w base spare held n' 2 ((List.drop 5 [v0, v1, v2, v3, v4, v5]).take (Ybaf.prog.cellsOf 2)) = some y := (hx 5 _ rfl).trans e
        rw [cells2] at t
        obtain ⟨z, hz, _⟩ := DataW.trod_int Ybaf.underlying2 t
        cases hz
        exact ⟨z, rfl⟩
    refine ⟨fun i j => match w.cell? ((a.add (i * 6)).add j) with | some (.int _ z) => z | _ => 0, fun i hi => ?_⟩
    obtain ⟨b, o, spot⟩ := a
    have hspot : spot = none := by
      obtain ⟨z, hz⟩ := hcell 0 (by omega) 0 (by decide)
      simpa [Addr.add] using World.cell?_spot hz
    subst hspot
    have hadd : ∀ j, ((⟨b, o, none⟩ : Addr).add (i * 6)).add j = ⟨b, o + i * 6 + j, none⟩ := fun j => by rw [Addr.add_mid, Addr.add_mid]
    refine ⟨b, o, rfl, ?_, fun j hj => ?_⟩
    · obtain ⟨z, hz⟩ := hcell i hi 0 (by decide)
      rw [hadd] at hz
      exact World.block_lt_of_cell? w _ hz
    · obtain ⟨z, hz⟩ := hcell i hi j hj
      rw [← hadd j]
      simp only [hz]

theorem own : ownKnob Ybaf.prog.godebug = none := by kernel_rfl
theorem laidOut : laidOutB Ybaf.prog = true := by kernel_rfl

set_option maxRecDepth 100000 in
theorem lifted (os : Os) (started : os.Started) (H : Type) (enc : TypeId × Value → H) :
    ReturnsInTold none {} Ybaf.checked os 5 .any Input.okWide ((OpenSpec.ofChange Rows.lawS5005CCountSpec).preRow enc Ybaf.prog Ybaf.f5 Rows.lawS5005CCountRow.domain false []) (fun F => ((OpenSpec.ofChange Rows.lawS5005CCountSpec).at F).post enc Ybaf.prog Ybaf.f5 false true false false) (aloneAtReturn Ybaf.prog) nothingAlways := by
  refine returnsInTold_of_row (C := Ybaf.checked) (s := OpenSpec.ofChange Rows.lawS5005CCountSpec) (by kernel_rfl) own started (by kernel_rfl) Ybaf.func5
    (OpenSpec.witness_stopped (enc := enc) (C := Ybaf.checked) false ⟨#[], #[.agg #[.int .u64 0, .int .i64 0, .string ⟨#[]⟩, .int .u8 0, .int .u8 0, .int .u8 0, .int .u8 0, .bool false, .int .i64 0], .slice none 0 0], []⟩ 8 (by kernel_rfl) (by kernel_rfl) (by kernel_rfl) (by kernel_rfl)) ?_
  intro F W base args ds gs before _ hF hval0 hW _ _ hsz _ _
  have hval : ∀ (j : Nat) t v, Ybaf.f5.params[j]? = some t → args[j]? = some v → Value.okWide Ybaf.prog W .any base t v := hval0
  have hW' := hW
  obtain ⟨p, q, hA0, hV, rfl, hfz, hnd⟩ := hW
  have hA : DataW.TrodAll enc Ybaf.prog W 0 (fun _ => true) true Ybaf.f5.params.toList args.toList ds p := hA0
  rw [Ybaf.params5] at hA hval
  obtain ⟨v0, vs0, d0, ds0, p0, q0, hargs, rfl, rfl, h0, r0⟩ := trodAll_cons hA
  obtain ⟨v1, vs1, d1, ds1, p1, q1, rfl, rfl, rfl, h1, r1⟩ := trodAll_cons r0
  obtain ⟨rfl, rfl, rfl⟩ := trodAll_nil r1
  obtain rfl : args = #[v0, v1] := by cases args; simp_all
  obtain ⟨rfl, rfl⟩ := trodVars_none hV
  obtain ⟨cs0, rfl, hcs0⟩ := okWide_struct Ybaf.underlying29 (hval 0 29 v0 rfl rfl)
  obtain ⟨a1, len1, cap1, rfl⟩ := okWide_slice Ybaf.underlying30 (hval 1 30 v1 rfl rfl)
  have k0 := h0
  have lt0 : ∀ x ∈ p0, x.block < W.heap.size := by obtain ⟨m, hm⟩ := k0; exact DataW.trod_lt m _ _ _ hm
  have k1 := h1
  have lt1 : ∀ x ∈ p1, x.block < W.heap.size := by obtain ⟨m, hm⟩ := k1; exact DataW.trod_lt m _ _ _ hm
  obtain ⟨sh, qn, y, hol, np, po, ki, re, pr, hl, u1, u2, u3, u4, u5, u6, u7, u8, u9⟩ : ∃ (sh qn y : Int) (hol : ByteArray) (np po ki re : Nat) (pr : Bool), cs0.toList = (cs sh qn hol np po ki re pr y).toList ∧ hol.size ≤ maxLen ∧ 0 ≤ sh ∧ sh ≤ 18446744073709551615 ∧ -9223372036854775808 ≤ qn ∧ qn ≤ 9223372036854775807 ∧ np ≤ 255 ∧ po ≤ 255 ∧ ki ≤ 255 ∧ re ≤ 255 := by
    obtain ⟨fuel, hf⟩ := h0
    exact open_case hf
  obtain rfl : cs0 = cs sh qn hol np po ki re pr y := Array.toList_inj.1 hl
  obtain ⟨pf, hpf⟩ : ∃ pf : Nat → Nat → Int, ∀ i, i < len1 → ∃ b o, a1 = some ⟨b, o, none⟩ ∧ b < W.heap.size ∧ ∀ j, j < 6 → W.cell? ⟨b, o + i * 6 + j, none⟩ = some (.int .i64 (pf i j)) := by
    obtain ⟨fuel, hf⟩ := h1
    exact open_figs hf
  clear hA0 hval0
  refine (law_all F.told sh qn y hol np po ki re pr a1 len1 cap1 W hF u1 u2 u3 u4 u5 u6 u7 u8 u9 pf hpf).mono fun e W' ⟨he, bel⟩ => ?_
  subst he
  exact ⟨_, rfl, _, _, _, [], _, [], hW', trodAll_mk1 (shut_bool Ybaf.underlying4 _), (trodAll_cons_mk (Below.trod laidOut (by kernel_rfl) (of_decide_eq_true (by kernel_rfl)) k0 bel lt0) (trodAll_cons_mk (Below.trod laidOut (by kernel_rfl) (of_decide_eq_true (by kernel_rfl)) k1 bel lt1) trodAll_mk0)), rfl, bel.frame _, fun h => by cases h⟩

theorem laidOutP : laidOutB Ybaf.pinned.checked.prog = true := by kernel_rfl
theorem stops : Ybaf.pinned.checked.prog.stops = ["fmt.errorf"] := by kernel_rfl
theorem stopKnobs : Ybaf.pinned.checked.prog.stopKnobs = [] := by kernel_rfl
theorem quiet (os : Os) : Stop.quiet Ybaf.pinned.checked.prog os := by
  intro k hk
  rw [stopKnobs] at hk
  cases hk

/-- ████ THE STATEMENT ████ -/
theorem countTold_holds : Rows.LawS5005CCountToldSaid :=
  Claim7.holds_of_told_any 5 Ybaf.f5 "fmt.errorf" [] [] _ _ _ (by kernel_rfl) rfl rfl rfl laidOutP (by kernel_rfl) rfl ⟨rfl, rfl, rfl, rfl, rfl, rfl, rfl⟩ rfl rfl (by kernel_rfl) (by kernel_rfl) Ybaf.func5 (by kernel_rfl)
    (of_decide_eq_true (by kernel_rfl)) (of_decide_eq_true (by kernel_rfl)) stops.symm rfl stopKnobs.symm (by kernel_rfl)
    (by kernel_rfl) (by kernel_rfl) (by kernel_rfl) (by kernel_rfl) (by kernel_rfl) (by kernel_rfl) (by kernel_rfl) (by kernel_rfl) (by kernel_rfl) rfl (by kernel_rfl) rfl rfl
    rfl rfl
    rfl (by kernel_rfl) (by kernel_rfl) (by kernel_rfl) (by decide) (by kernel_rfl)
    (OpenClaim.moreEntering_of (by kernel_rfl) (by kernel_rfl) (by kernel_rfl) (by kernel_rfl) (by kernel_rfl) (by kernel_rfl) (by kernel_rfl) (by kernel_rfl) (by kernel_rfl) (by kernel_rfl))
    ⟨_, WideRow.started_initial, quiet _⟩
    (fun os started _ H enc _ => lifted os started H enc)

end Go.Proofs.YbulkcyqaFmt
