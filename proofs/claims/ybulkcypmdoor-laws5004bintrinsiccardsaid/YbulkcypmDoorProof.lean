/-
  'Rows.LawS5004BIntrinsicCardSaid': the row proved (the listed table opened, the walk, all handed back), then the tied card.
-/
import Derived.Test.YbulkcypmDoorTie
import Derived.Test.YbulkcypmDoorCards
import Derived.Test.YbulkcypmDoorLaw
import Derived.ProofKit
import Derived.LaidMore
import Derived.OpenVars
import Derived.OpenShut
import Derived.Stop.Joined
import Derived.ChangeOld
import Derived.SevenTiedAt
namespace Go.Proofs.YbulkcypmDoor
set_option linter.unusedVariables false
set_option linter.unusedSimpArgs false
open Go.ChangeShapes Go.WideShapes Go.ChangeAt Go.RowKit

theorem own : ownKnob Ybad.prog.godebug = none := by kernel_rfl
theorem laidOut : laidOutB Ybad.prog = true := by kernel_rfl
theorem gExp : Ybad.prog.globalNamed (Rows.lawS5004BIntrinsicSpec.vars.getD 0 "") = some 1 := by kernel_rfl
theorem tExp : (Ybad.prog.globals[1]?).map (·.type) = some 40 := by kernel_rfl
theorem cells22 : Ybad.prog.cellsOf 22 = 1 := by kernel_rfl
theorem cells40 : Ybad.prog.cellsOf 40 = 12 := by kernel_rfl

theorem trod_float {H : Type} {enc : TypeId × Value → H} {P : Program} {w : World} {base : Nat} {spare : Nat → Bool} {held : Bool} {fuel : Nat} {t : TypeId} {cs : List Value} {x : DataW H × List MemPlace} {k : FloatKind}
    (ht : P.underlying t = some (.float k)) (h : DataW.trod enc P w base spare held fuel t cs = some x) : ∃ b, cs = [.float k b] ∧ x.1 = .lit (.float k b) := by
  cases fuel with
  | zero => simp [DataW.trod] at h
  | succ n =>
    unfold DataW.trod at h
    rw [ht] at h
    split at h <;> simp_all
    rw [← h.2]

/-- WHAT THE CONDITION GIVES A WALK: the table's cells. -/
theorem of_laid {W : World} (h : laidMetH Ybad.prog Rows.lawS5004BIntrinsicRow.laid W) : ∀ k, k < 12 → W.cell? ⟨1, k, none⟩ = some (.float .f64 (tab.getD k 0)) := by
  rw [MakeChecks.laidMetH_plain _ _ _ (by kernel_rfl)] at h
  obtain ⟨ps, ⟨g0, t0, cs0, f0, p0, q0, hg0, ht0, hv0, hd0, _, e0⟩, _, hrows⟩ := h
  obtain rfl := Option.some.inj (gExp.symm.trans hg0)
  obtain rfl := Option.some.inj (tExp.symm.trans ht0)
  obtain ⟨xs, m, rfl, hx, hlen, hn, hel⟩ := DataW.trod_array Ybad.underlying40 hd0
  simp only [Prod.mk.injEq] at hx
  have hag : xs.map (·.1) = tab.map (fun b => DataW.lit (.float .f64 b)) := by
    have e : Rows.laid_example_com_vestline_vestline_pkg_value_expSeries = (DataW.agg (tab.map (fun b => DataW.lit (.float .f64 b))) : DataW Unit) := rfl
    rw [e] at hx
    exact (DataW.agg.inj hx.1).symm
  rw [cells22] at hel
  rw [cells40] at hlen
  intro k hk
  have hk2 := hel k hk
  rw [List.getElem?_eq_getElem (by omega)] at hk2
  obtain ⟨b, hb1, hb2⟩ := trod_float Ybad.underlying22 hk2
  have hb3 : (tab.map (fun b => (DataW.lit (.float .f64 b) : DataW Unit)))[k]? = some (.lit (.float .f64 b)) := by
    rw [← hag, List.getElem?_map, List.getElem?_eq_getElem (by omega), Option.map_some, hb2]
  have hbt : b = tab.getD k 0 := by
    rw [List.getElem?_map, List.getElem?_eq_getElem (by exact hk), Option.map_some] at hb3
    have := Option.some.inj hb3
    simp only [DataW.lit.injEq, Lit.float.injEq, true_and] at this
    rw [List.getD_eq_getElem?_getD, List.getElem?_eq_getElem (by exact hk)]
    exact this.symm
  have hcell := World.var?_cell gExp hv0 k
  rw [Nat.mul_one] at hb1
  have hc : cs0[k]? = some (.float .f64 b) := by
    have h1 := congrArg (fun l : List Value => l[0]?) hb1
    simp only [List.getElem?_take, List.getElem?_drop] at h1
    simpa using h1
  rw [hcell, hc, hbt]

/-- The door's own heap meets the condition. -/
theorem door_met (os : Os) (args : Array Value) : laidMetH Ybad.prog Rows.lawS5004BIntrinsicRow.laid ((World.doorLaid Ybad.prog 400 os).forCall (fun _ _ => 0) ⟨#[], args, []⟩).memory :=
  laidMetH_of_parts3 (fuel := 8) (laidMet_of_run' 8 (by kernel_rfl) (by kernel_rfl)) (by kernel_rfl) (by kernel_rfl)

/-- Three named variables read as three data. -/
theorem vars_three {H : Type} {enc : TypeId × Value → H} {P : Program} {w : World} {sp : Nat → Bool} {n0 n1 n2 : String} {gs : List (DataW H)} {ps : List MemPlace} (h : DataW.TrodVars enc P w sp [n0, n1, n2] gs ps) : ∃ d0 d1 d2, gs = [d0, d1, d2] := by
  match gs, h with
  | [], h => exact False.elim h
  | _ :: [], ⟨_, _, _, _, _, _, _, _, _, _, h, _⟩ => exact False.elim h
  | _ :: _ :: [], ⟨_, _, _, _, _, _, _, _, _, _, ⟨_, _, _, _, _, _, _, _, _, _, h, _⟩, _⟩ => exact False.elim h
  | [d0, d1, d2], _ => exact ⟨d0, d1, d2, rfl⟩
  | _ :: _ :: _ :: _ :: _, ⟨_, _, _, _, _, _, _, _, _, _, ⟨_, _, _, _, _, _, _, _, _, _, ⟨_, _, _, _, _, _, _, _, _, _, h, _⟩, _⟩, _⟩ => exact False.elim h

theorem lt64 {b : Nat} (h : (Lit.float .f64 b).wf = true) : b < 18446744073709551616 := by
  simpa [Lit.wf] using h

/-- The law at every three words. -/
theorem law_any (S K Y : Nat) (w : World) (hS : S < 18446744073709551616) (hK : K < 18446744073709551616) (hY : Y < 18446744073709551616)
    (hcell : ∀ k, k < 12 → w.cell? ⟨1, k, none⟩ = some (.float .f64 (tab.getD k 0))) :
    Calls Ybad.prog 3 #[.float .f64 S, .float .f64 K, .float .f64 Y] w fun e w' => e = .returned (.bool true) ∧ Below w.heap.size w w' := by
  rcases cases3 Y with y | y | y
  · exact law_ynan S K Y w y
  · exact law_yinf S K Y w hY y
  · rcases cases3 K with k | k | k
    · have hk : ¬ Inf K := fun h => by unfold NaN at k; unfold Inf at h; omega
      by_cases s : NaN S
      · exact law_nan S K Y w hS hK hY y hk (sub_nan_left s) (call_nan_both S K Y w hS hK y s k hcell)
      · exact law_nan S K Y w hS hK hY y hk (sub_nan_right k) (call_nan_strike S K Y w hS hK y s k hcell)
    · exact law_kinf S K Y w hS hK hY y k hcell
    · have hk : ¬ Inf K := fun h => by unfold Finite at k; unfold Inf at h; omega
      by_cases s : NaN S
      · exact law_nan S K Y w hS hK hY y hk (sub_nan_left s) (call_nan_spot S K Y w hS hK y s k hcell)
      · obtain ⟨d, hd, hdn, hd64⟩ := sub_some s k
        exact law_plain S K Y d w hS hK hY y s k hd hdn hd64 hcell

set_option maxRecDepth 100000 in
theorem lifted (os : Os) (started : os.Started) (H : Type) (enc : TypeId × Value → H) :
    ReturnsInHanded {} Ybad.checked os 3 .any (fun w args => (Rows.lawS5004BIntrinsicSpec.pre enc Ybad.prog Ybad.f3 [] false w args ∧ laidMetH Ybad.prog Rows.lawS5004BIntrinsicRow.laid w) ∧ sizedMet enc Ybad.prog Ybad.f3 (OpenSpec.ofChange Rows.lawS5004BIntrinsicSpec) false w args)
      (Rows.lawS5004BIntrinsicSpec.post enc Ybad.prog Ybad.f3 false true false false) := by
  refine returnsInHanded_of_change_and (C := Ybad.checked) (X := fun w _ => laidMetH Ybad.prog Rows.lawS5004BIntrinsicRow.laid w) (fun _ _ _ hh h => h.of_heap hh) own started (by kernel_rfl) Ybad.func3
    (ChangeSpec.witness_shaped (enc := enc) (C := Ybad.checked) (os := os) (X := fun w _ => laidMetH Ybad.prog Rows.lawS5004BIntrinsicRow.laid w) false (World.doorLaid Ybad.prog 400 os) #[.float .f64 0, .float .f64 0, .float .f64 0] 8 rfl (World.shaped_of_RefB (by kernel_rfl) (by kernel_rfl)) (by kernel_rfl) (by kernel_rfl) (by kernel_rfl) (door_met os _)) ?_
  intro W base args ds gs before hval0 hW _ _ hL _
  have hval : ∀ (j : Nat) t v, Ybad.f3.params[j]? = some t → args[j]? = some v → Value.okWide Ybad.prog W .any base t v := hval0
  have hW' := hW
  obtain ⟨p, q, hA0, hV, rfl, hfz, hnd⟩ := hW
  have hA : DataW.TrodAll enc Ybad.prog W 0 (fun _ => true) true Ybad.f3.params.toList args.toList ds p := hA0
  rw [Ybad.params3] at hA hval
  obtain ⟨v0, v1, v2, d0, d1, d2, p0, p1, p2, rfl, rfl, rfl, h0, h1, h2⟩ := trodAll_three hA
  obtain ⟨g1, g2, g3, rfl⟩ := vars_three hV
  obtain ⟨S, rfl, rfl, rfl, wS⟩ := open_float Ybad.underlying22 (hval 0 22 v0 rfl rfl) h0
  obtain ⟨K, rfl, rfl, rfl, wK⟩ := open_float Ybad.underlying22 (hval 1 22 v1 rfl rfl) h1
  obtain ⟨Y, rfl, rfl, rfl, wY⟩ := open_float Ybad.underlying22 (hval 2 22 v2 rfl rfl) h2
  have hcell := of_laid hL
  clear hA0 hval0
  refine (law_any S K Y W (lt64 wS) (lt64 wK) (lt64 wY) hcell).mono ?_
  rintro e W' ⟨rfl, bel⟩
  exact ⟨_, rfl, _, _, _, [], _, _, hW', trodAll_mk1 (shut_bool Ybad.underlying4 _), trodAll_cons_mk (shut_float Ybad.underlying22 wS) (trodAll_cons_mk (shut_float Ybad.underlying22 wK) (trodAll_cons_mk (shut_float Ybad.underlying22 wY) trodAll_mk0)), Below.trodVars laidOut bel (by kernel_rfl) hV, bel.frame _, fun h => by cases h⟩

theorem intrinsic_holds : Rows.LawS5004BIntrinsicSaid :=
  OpenClaim.holds_of_wide 3 Ybad.f3 rfl rfl rfl rfl rfl rfl rfl ⟨rfl, rfl, rfl, rfl, rfl⟩ rfl rfl rfl rfl rfl (by kernel_rfl) Ybad.func3 (by kernel_rfl)
    (of_decide_eq_true (by kernel_rfl)) (by unfold Func.isWrapper; first | (rw [if_pos (by decide +kernel)]; kernel_rfl) | (rw [if_neg (by decide +kernel)]; exact ⟨rfl, rfl⟩))
    (fun os started H enc _ => lifted os started H enc)

/-- ████ THE TIED CARD ████ -/
theorem intrinsicCard_holds : Rows.LawS5004BIntrinsicCardSaid :=
  Claim7.holds_tied_plain_at .later [] [.widerDeep, .widerDeep, .widerDeep] true (true, "b430c7e82df4c65a8b9d0b0c566ae487496ac1fdc4f2d7f54f61ced9a9e8f7af") false
    intrinsic_holds (fun _ h => by cases h) (by kernel_rfl) (fun _ h => by cases h) lawS5004BIntrinsic_row_tie rfl ⟨rfl, rfl⟩ (by kernel_rfl) rfl
    (fun f fn hf hfn => by
      obtain rfl : f = 3 := Option.some.inj ((show Ybad.prog.funcNamed Rows.lawS5004BIntrinsicRow.func = some 3 by kernel_rfl).symm.trans hf) |>.symm
      obtain rfl : fn = Ybad.f3 := (Option.some.inj (Ybad.func3.symm.trans hfn)).symm
      exact ⟨by kernel_rfl, fun j t ht => by
        rw [Ybad.params3] at ht
        have hm : t ∈ [22, 22, 22] := by simpa using Array.mem_of_getElem? ht
        have hall : ([22, 22, 22].all fun u => !Ybad.prog.wantsStandIn u) = true := by kernel_rfl
        exact (show Ybad.prog.wantsStandIn t = false by simpa using List.all_eq_true.1 hall t hm)⟩)
    (by kernel_rfl)

end Go.Proofs.YbulkcypmDoor
