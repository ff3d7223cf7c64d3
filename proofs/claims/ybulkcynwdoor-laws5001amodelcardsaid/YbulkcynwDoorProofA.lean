/-
  'Rows.LawS5001AModelCardSaid': the row proved (the listed sentinels opened, the slice opened, the walk, all handed back), then the tied card.
-/
import Derived.Test.YbulkcynwDoorTie
import Derived.Test.YbulkcynwDoorCards
import Derived.Test.YbulkcynwDoorLawA0
import Derived.Test.YbulkcynwDoorLawA1
import Derived.ProofKit
import Derived.LaidMore
import Derived.OpenVars
import Derived.OpenShut
import Derived.Stop.LaidErr
import Derived.Stop.Joined
import Derived.ChangeOld
import Derived.SevenTiedAt
namespace Go.Proofs.YbulkcynwDoor
set_option linter.unusedVariables false
set_option linter.unusedSimpArgs false
open Go.ChangeShapes Go.WideShapes Go.ChangeAt Go.RowKit

theorem own : ownKnob Ybad.prog.godebug = none := by kernel_rfl
theorem laidOut : laidOutB Ybad.prog = true := by kernel_rfl
theorem cells42 : Ybad.prog.cellsOf 42 = 1 := by kernel_rfl
theorem cells9 : Ybad.prog.cellsOf 9 = 1 := by kernel_rfl
theorem gEOF : Ybad.prog.globalNamed "io.EOF" = some 0 := by kernel_rfl
theorem gUnex : Ybad.prog.globalNamed "io.ErrUnexpectedEOF" = some 2 := by kernel_rfl
theorem gLarge : Ybad.prog.globalNamed (Rows.lawS5001AModelSpec.vars.getD 0 "") = some 1 := by kernel_rfl
theorem gLong : Ybad.prog.globalNamed (Rows.lawS5001AModelSpec.vars.getD 1 "") = some 3 := by kernel_rfl
theorem gCut : Ybad.prog.globalNamed (Rows.lawS5001AModelSpec.vars.getD 2 "") = some 5 := by kernel_rfl
theorem ty0 : (Ybad.prog.globals[0]?).map (·.type) = some 24 := by kernel_rfl
theorem ty1 : (Ybad.prog.globals[1]?).map (·.type) = some 24 := by kernel_rfl
theorem ty2 : (Ybad.prog.globals[2]?).map (·.type) = some 24 := by kernel_rfl
theorem ty3 : (Ybad.prog.globals[3]?).map (·.type) = some 24 := by kernel_rfl
theorem ty5 : (Ybad.prog.globals[5]?).map (·.type) = some 24 := by kernel_rfl

/-- The dynamic type's name, off the given datum. -/
def errName : String := match (Rows.laid_io_EOF : DataW Unit) with | .iface n _ => n | _ => ""
theorem row40 (u : TypeId) (h : Ybad.prog.typeName? 3 u = some errName) : u = 40 :=
  typeName_ptr_named (nm := "errors.errorString") (by kernel_rfl) (by kernel_rfl) (by decide) u (h.trans (congrArg some (by decide)))

/-- WHAT THE CONDITION GIVES A WALK: the four sentinels' cells, and that io.EOF's own block is a plain one; that there are six blocks at least. -/
theorem of_laid {W : World} (h : laidMetH Ybad.prog Rows.lawS5001AModelRow.laid W) :
    ∃ (a0 a1 a2 a3 : Addr) (c0 : Array Value) (t0 : TypeId), W.cell? ⟨0, 0, none⟩ = some (.iface 40 (.pointer (some a0))) ∧ W.cell? ⟨1, 0, none⟩ = some (.iface 40 (.pointer (some a1))) ∧
      W.cell? ⟨2, 0, none⟩ = some (.iface 40 (.pointer (some a2))) ∧ W.cell? ⟨3, 0, none⟩ = some (.iface 40 (.pointer (some a3))) ∧ W.heap[a0.block]? = some (.cells c0 t0 (0, 0)) ∧ 5 < W.heap.size := by
  rw [MakeChecks.laidMetH_plain _ _ _ (by kernel_rfl)] at h
  have hL := h
  obtain ⟨ps, ⟨g0, t0, cs0, f0, p0, q0, hg0, ht0, hv0, hd0, _, e0⟩, _, hrows⟩ := h
  obtain rfl := Option.some.inj (gEOF.symm.trans hg0)
  obtain rfl := Option.some.inj (ty0.symm.trans ht0)
  subst e0
  obtain ⟨l0⟩ := cs0
  have ok0 : ∀ u v, l0 = [.iface u v] → Value.okWide Ybad.prog W .any 0 u v := fun u v e => by
    subst e
    exact (hrows 0 0 (by simp [MemPlace.row])).2 u v (by simpa using World.var?_cell hg0 hv0 0)
  obtain ⟨a0, s0, rfl, hc0, hs0, hz0, rfl⟩ := errorString_of_trod Ybad.underlying24 row40 Ybad.underlying40 Ybad.underlying42 rfl rfl Ybad.underlying9 cells42 cells9 hd0 ok0
  obtain ⟨c0, t0, hb0⟩ := (hrows a0.block a0.off (by simp [MemPlace.row])).1
  obtain ⟨a2, _, hv2, _⟩ := laid_sentinel hL.tail gUnex ty2 Ybad.underlying24 row40 Ybad.underlying40 Ybad.underlying42 rfl rfl Ybad.underlying9 cells42 cells9
  obtain ⟨a5, _, hv5, _⟩ := laid_sentinel hL.tail.tail gCut ty5 Ybad.underlying24 row40 Ybad.underlying40 Ybad.underlying42 rfl rfl Ybad.underlying9 cells42 cells9
  obtain ⟨a1, _, hv1, _⟩ := laid_sentinel hL.tail.tail.tail gLarge ty1 Ybad.underlying24 row40 Ybad.underlying40 Ybad.underlying42 rfl rfl Ybad.underlying9 cells42 cells9
  obtain ⟨a3, _, hv3, _⟩ := laid_sentinel hL.tail.tail.tail.tail gLong ty3 Ybad.underlying24 row40 Ybad.underlying40 Ybad.underlying42 rfl rfl Ybad.underlying9 cells42 cells9
  have k0 : W.cell? ⟨0, 0, none⟩ = some (.iface 40 (.pointer (some a0))) := by simpa using World.var?_cell gEOF hv0 0
  have k1 : W.cell? ⟨1, 0, none⟩ = some (.iface 40 (.pointer (some a1))) := by simpa using World.var?_cell gLarge hv1 0
  have k2 : W.cell? ⟨2, 0, none⟩ = some (.iface 40 (.pointer (some a2))) := by simpa using World.var?_cell gUnex hv2 0
  have k3 : W.cell? ⟨3, 0, none⟩ = some (.iface 40 (.pointer (some a3))) := by simpa using World.var?_cell gLong hv3 0
  have k5 : W.cell? ⟨5, 0, none⟩ = some (.iface 40 (.pointer (some a5))) := by simpa using World.var?_cell gCut hv5 0
  exact ⟨a0, a1, a2, a3, c0, t0, k0, k1, k2, k3, hb0, World.block_lt_of_cell? W _ k5⟩

/-- The door's own heap meets the condition. -/
theorem door_met (os : Os) (args : Array Value) : laidMetH Ybad.prog Rows.lawS5001AModelRow.laid ((World.doorLaid Ybad.prog 400 os).forCall (fun _ _ => 0) ⟨#[], args, []⟩).memory :=
  laidMetH_of_parts3 (fuel := 8) (laidMet_of_run' 8 (by kernel_rfl) (by kernel_rfl)) (by kernel_rfl) (by kernel_rfl)

/-- Three named variables read as three data. -/
theorem vars_three {H : Type} {enc : TypeId × Value → H} {P : Program} {w : World} {sp : Nat → Bool} {n0 n1 n2 : String} {gs : List (DataW H)} {ps : List MemPlace} (h : DataW.TrodVars enc P w sp [n0, n1, n2] gs ps) : ∃ d0 d1 d2, gs = [d0, d1, d2] := by
  match gs, h with
  | [], h => exact False.elim h
  | _ :: [], ⟨_, _, _, _, _, _, _, _, _, _, h, _⟩ => exact False.elim h
  | _ :: _ :: [], ⟨_, _, _, _, _, _, _, _, _, _, ⟨_, _, _, _, _, _, _, _, _, _, h, _⟩, _⟩ => exact False.elim h
  | [d0, d1, d2], _ => exact ⟨d0, d1, d2, rfl⟩
  | _ :: _ :: _ :: _ :: _, ⟨_, _, _, _, _, _, _, _, _, _, ⟨_, _, _, _, _, _, _, _, _, _, ⟨_, _, _, _, _, _, _, _, _, _, h, _⟩, _⟩, _⟩ => exact False.elim h

/-- A slice of bytes that came in: its elements. -/
theorem open_data {H : Type} {enc : TypeId × Value → H} {W : World} {a : Option Addr} {len cap : Nat} {d : DataW H} {p : List MemPlace}
    (h : DataW.Trod enc Ybad.prog W 0 (fun _ => true) true 22 (.slice a len cap) d p) :
    ∃ zs : List Int, len ≤ maxLen ∧ (∀ j, 0 ≤ zs.getD j 0 ∧ zs.getD j 0 < 256) ∧
      (∀ j, j < len → ∃ b off, a = some ⟨b, off, none⟩ ∧ b < W.heap.size ∧ ∀ j, j < len → W.cell? ⟨b, off + j, none⟩ = some (.int .u8 (zs.getD j 0))) := by
  obtain ⟨fuel, hf⟩ := h
  rcases open_ints Ybad.underlying22 Ybad.underlying5 (by kernel_rfl) hf with ⟨hcs, _⟩ | ⟨x, l, c, zs, hcs, _, hl, hm, hz, _, hcell, hwz⟩
  · simp [Value.cells] at hcs
    obtain ⟨rfl, rfl, rfl⟩ := hcs
    exact ⟨[], Nat.zero_le _, fun j => by simp, fun j hj => absurd hj (by omega)⟩
  · simp [Value.cells] at hcs
    obtain ⟨rfl, rfl, rfl⟩ := hcs
    have hz' : zs.length = cap := by simpa using hz
    refine ⟨zs, by omega, fun j => ?_, fun j hj => ?_⟩
    · have := range_u8 hwz j
      rw [List.getD_eq_getElem?_getD]
      omega
    · obtain ⟨b, off, spot⟩ := x
      have hspot : spot = none := by simpa [Addr.add] using World.cell?_spot (hcell 0 (by omega))
      subst hspot
      have hc : ∀ i, i < zs.length → W.cell? ⟨b, off + i, none⟩ = some (.int .u8 (zs.getD i 0)) := fun i hi => by rw [← add_plain]; exact hcell i hi
      exact ⟨b, off, rfl, World.block_lt_of_cell? W _ (hc 0 (by omega)), fun i hi => hc i (by omega)⟩

set_option maxRecDepth 100000 in
theorem model_lifted (os : Os) (started : os.Started) (H : Type) (enc : TypeId × Value → H) :
    ReturnsInHanded {} Ybad.checked os 3 .any (fun w args => (Rows.lawS5001AModelSpec.pre enc Ybad.prog Ybad.f3 [] false w args ∧ laidMetH Ybad.prog Rows.lawS5001AModelRow.laid w) ∧ sizedMet enc Ybad.prog Ybad.f3 (OpenSpec.ofChange Rows.lawS5001AModelSpec) false w args)
      (Rows.lawS5001AModelSpec.post enc Ybad.prog Ybad.f3 false true false false) := by
  refine returnsInHanded_of_change_and (C := Ybad.checked) (X := fun w _ => laidMetH Ybad.prog Rows.lawS5001AModelRow.laid w) (fun _ _ _ hh h => h.of_heap hh) own started (by kernel_rfl) Ybad.func3
    (ChangeSpec.witness_shaped (enc := enc) (C := Ybad.checked) (os := os) (X := fun w _ => laidMetH Ybad.prog Rows.lawS5001AModelRow.laid w) false (World.doorLaid Ybad.prog 400 os) #[.slice none 0 0, .bool false] 8 rfl (World.shaped_of_RefB (by kernel_rfl) (by kernel_rfl)) (by kernel_rfl) (by kernel_rfl) (by kernel_rfl) (door_met os _)) ?_
  intro W base args ds gs before hval0 hW _ _ hL _
  have hval : ∀ (j : Nat) t v, Ybad.f3.params[j]? = some t → args[j]? = some v → Value.okWide Ybad.prog W .any base t v := hval0
  have hW' := hW
  obtain ⟨p, q, hA0, hV, rfl, hfz, hnd⟩ := hW
  have hA : DataW.TrodAll enc Ybad.prog W 0 (fun _ => true) true Ybad.f3.params.toList args.toList ds p := hA0
  rw [Ybad.params3] at hA hval
  obtain ⟨v0, v1, d0, d1, p0, p1, rfl, rfl, rfl, h0, h1⟩ := trodAll_two hA
  obtain ⟨g1, g2, g3, rfl⟩ := vars_three hV
  obtain ⟨a, len, cap, rfl⟩ := okWide_slice Ybad.underlying22 (hval 0 22 v0 rfl rfl)
  have k0 := h0
  have lt0 : ∀ x ∈ p0, x.block < W.heap.size := by obtain ⟨m, hm⟩ := k0; exact DataW.trod_lt m _ _ _ hm
  obtain ⟨zs, hlen, hbyte, hda⟩ := open_data h0
  obtain ⟨fail, rfl, rfl, rfl⟩ := open_bool Ybad.underlying4 (hval 1 4 v1 rfl rfl) h1
  obtain ⟨a0, a1, a2, a3, c0, t0, w0, w1, w2, w3, hb0, h5⟩ := of_laid hL
  clear hA0 hval0
  have fin : ∀ (e : Ending) (W' : World), (e = .returned (.bool true) ∧ Below W.heap.size W W') → ∃ v, e = .returned v ∧ Rows.lawS5001AModelSpec.post enc Ybad.prog Ybad.f3 false true false false W #[.slice a len cap, .bool fail] v W' := by
    rintro e W' ⟨rfl, bel⟩
    exact ⟨_, rfl, _, _, _, [], _, _, hW', trodAll_mk1 (shut_bool Ybad.underlying4 _), trodAll_cons_mk (Below.trod laidOut (by kernel_rfl) (of_decide_eq_true (by kernel_rfl)) k0 bel lt0) (trodAll_cons_mk (shut_bool Ybad.underlying4 _) trodAll_mk0), Below.trodVars laidOut bel (by kernel_rfl) hV, bel.frame _, fun h => by cases h⟩
  cases fail
  · exact (lawA0 len cap a zs a0 a1 a2 a3 W hlen h5 hda hbyte w0 w1 w2 w3).mono fin
  · exact (lawA1 len cap a zs a0 a1 a2 a3 W hlen h5 hda hbyte w0 w1 w2 w3 c0 t0 hb0).mono fin

theorem model_holds : Rows.LawS5001AModelSaid :=
  OpenClaim.holds_of_wide 3 Ybad.f3 rfl rfl rfl rfl rfl rfl rfl ⟨rfl, rfl, rfl, rfl, rfl⟩ rfl rfl rfl rfl rfl (by kernel_rfl) Ybad.func3 (by kernel_rfl)
    (of_decide_eq_true (by kernel_rfl)) (by unfold Func.isWrapper; first | (rw [if_pos (by decide +kernel)]; kernel_rfl) | (rw [if_neg (by decide +kernel)]; exact ⟨rfl, rfl⟩))
    (fun os started H enc _ => model_lifted os started H enc)

/-- ████ THE TIED CARD ████ -/
theorem modelCard_holds : Rows.LawS5001AModelCardSaid :=
  Claim7.holds_tied_plain_at .later [] [.sentinel, .sentinel, .sentinel, .sentinel, .sentinel] true (true, "e5867c9b504dc642a89f2c154ebeebed69a474b2347b2edd410d6e5dcd6dcb16") true
    model_holds (fun _ h => by cases h) (by kernel_rfl) (fun _ h => by cases h) lawS5001AModel_row_tie rfl ⟨rfl, rfl⟩ (by kernel_rfl) rfl
    (fun f fn hf hfn => by
      obtain rfl : f = 3 := Option.some.inj ((show Ybad.prog.funcNamed Rows.lawS5001AModelRow.func = some 3 by kernel_rfl).symm.trans hf) |>.symm
      obtain rfl : fn = Ybad.f3 := (Option.some.inj (Ybad.func3.symm.trans hfn)).symm
      exact ⟨by kernel_rfl, fun j t ht => by
        rw [Ybad.params3] at ht
        have hm : t ∈ [22, 4] := by simpa using Array.mem_of_getElem? ht
        have hall : ([22, 4].all fun u => !Ybad.prog.wantsStandIn u) = true := by kernel_rfl
        exact (show Ybad.prog.wantsStandIn t = false by simpa using List.all_eq_true.1 hall t hm)⟩)
    (by kernel_rfl)

end Go.Proofs.YbulkcynwDoor
