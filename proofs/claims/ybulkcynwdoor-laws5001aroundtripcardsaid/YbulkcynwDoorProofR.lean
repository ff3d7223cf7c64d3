/-
  'Rows.LawS5001ARoundTripCardSaid': the row proved (the listed sentinels opened, the slice opened, the walk, all handed back), then the tied card.
-/
import Derived.Test.YbulkcynwDoorTie
import Derived.Test.YbulkcynwDoorCards
import Derived.Test.YbulkcynwDoorLawR
import Derived.ProofKit
import Derived.LaidMore
import Derived.OpenVars
import Derived.OpenShut
import Derived.Stop.LaidErr
import Derived.Stop.Joined
import Derived.ChangeOld
import Derived.SevenTiedAt
namespace Go.Proofs.YbulkcynwDoor
set_option linter.unusedVariables false
set_option linter.unusedSimpArgs false
namespace RT
open Go.ChangeShapes Go.WideShapes Go.ChangeAt Go.RowKit

theorem own : ownKnob Ybad.prog.godebug = none := by kernel_rfl
theorem laidOut : laidOutB Ybad.prog = true := by kernel_rfl
theorem cells42 : Ybad.prog.cellsOf 42 = 1 := by kernel_rfl
theorem cells9 : Ybad.prog.cellsOf 9 = 1 := by kernel_rfl
theorem gEOF : Ybad.prog.globalNamed "io.EOF" = some 0 := by kernel_rfl
theorem gUnex : Ybad.prog.globalNamed "io.ErrUnexpectedEOF" = some 2 := by kernel_rfl
theorem gLarge : Ybad.prog.globalNamed (Rows.lawS5001ARoundTripSpec.vars.getD 0 "") = some 1 := by kernel_rfl
theorem gLong : Ybad.prog.globalNamed (Rows.lawS5001ARoundTripSpec.vars.getD 2 "") = some 3 := by kernel_rfl
theorem gCut : Ybad.prog.globalNamed (Rows.lawS5001ARoundTripSpec.vars.getD 1 "") = some 5 := by kernel_rfl
theorem ty0 : (Ybad.prog.globals[0]?).map (·.type) = some 24 := by kernel_rfl
theorem ty1 : (Ybad.prog.globals[1]?).map (·.type) = some 24 := by kernel_rfl
theorem ty2 : (Ybad.prog.globals[2]?).map (·.type) = some 24 := by kernel_rfl
theorem ty3 : (Ybad.prog.globals[3]?).map (·.type) = some 24 := by kernel_rfl
theorem ty5 : (Ybad.prog.globals[5]?).map (·.type) = some 24 := by kernel_rfl

/-- The dynamic type's name, off the given datum. -/
def errName : String := match (Rows.laid_io_EOF : DataW Unit) with | .iface n _ => n | _ => ""
theorem row40 (u : TypeId) (h : Ybad.prog.typeName? 3 u = some errName) : u = 40 :=
  typeName_ptr_named (nm := "errors.errorString") (by kernel_rfl) (by kernel_rfl) (by decide) u (h.trans (congrArg some (by decide)))

/-- WHAT THE CONDITION GIVES A WALK: the four sentinels' cells, and that io.EOF's own block is a plain one; that there are six blocks at least. -/
theorem of_laid {W : World} (h : laidMetH Ybad.prog Rows.lawS5001ARoundTripRow.laid W) :
    ∃ (a0 a1 a2 a3 : Addr) (c0 : Array Value) (t0 : TypeId), W.cell? ⟨0, 0, none⟩ = some (.iface 40 (.pointer (some a0))) ∧ W.cell? ⟨1, 0, none⟩ = some (.iface 40 (.pointer (some a1))) ∧
      W.cell? ⟨2, 0, none⟩ = some (.iface 40 (.pointer (some a2))) ∧ W.cell? ⟨3, 0, none⟩ = some (.iface 40 (.pointer (some a3))) ∧ W.heap[a0.block]? = some (.cells c0 t0 (0, 0)) ∧ 5 < W.heap.size := by
  rw [MakeChecks.laidMetH_plain _ _ _ (by kernel_rfl)] at h
  have hL := h
  obtain ⟨ps, ⟨g0, t0, cs0, f0, p0, q0, hg0, ht0, hv0, hd0, _, e0⟩, _, hrows⟩ := h
  obtain rfl := Option.some.inj (gEOF.symm.trans hg0)
  obtain rfl := Option.some.inj (ty0.symm.trans ht0)
  subst e0
  obtain ⟨l0⟩ := cs0
  have ok0 : ∀ u v, l0 = [.iface u v] → Value.okWide Ybad.prog W .any 0 u v := fun u v e => by
    subst e
    exact (hrows 0 0 (by simp [MemPlace.row])).2 u v (by simpa using World.var?_cell hg0 hv0 0)
  obtain ⟨a0, s0, rfl, hc0, hs0, hz0, rfl⟩ := errorString_of_trod Ybad.underlying24 row40 Ybad.underlying40 Ybad.underlying42 rfl rfl Ybad.underlying9 cells42 cells9 hd0 ok0
  obtain ⟨c0, t0, hb0⟩ := (hrows a0.block a0.off (by simp [MemPlace.row])).1
  obtain ⟨a2, _, hv2, _⟩ := laid_sentinel hL.tail gUnex ty2 Ybad.underlying24 row40 Ybad.underlying40 Ybad.underlying42 rfl rfl Ybad.underlying9 cells42 cells9
  obtain ⟨a5, _, hv5, _⟩ := laid_sentinel hL.tail.tail gCut ty5 Ybad.underlying24 row40 Ybad.underlying40 Ybad.underlying42 rfl rfl Ybad.underlying9 cells42 cells9
  obtain ⟨a1, _, hv1, _⟩ := laid_sentinel hL.tail.tail.tail gLarge ty1 Ybad.underlying24 row40 Ybad.underlying40 Ybad.underlying42 rfl rfl Ybad.underlying9 cells42 cells9
  obtain ⟨a3, _, hv3, _⟩ := laid_sentinel hL.tail.tail.tail.tail gLong ty3 Ybad.underlying24 row40 Ybad.underlying40 Ybad.underlying42 rfl rfl Ybad.underlying9 cells42 cells9
  have k0 : W.cell? ⟨0, 0, none⟩ = some (.iface 40 (.pointer (some a0))) := by simpa using World.var?_cell gEOF hv0 0
  have k1 : W.cell? ⟨1, 0, none⟩ = some (.iface 40 (.pointer (some a1))) := by simpa using World.var?_cell gLarge hv1 0
  have k2 : W.cell? ⟨2, 0, none⟩ = some (.iface 40 (.pointer (some a2))) := by simpa using World.var?_cell gUnex hv2 0
  have k3 : W.cell? ⟨3, 0, none⟩ = some (.iface 40 (.pointer (some a3))) := by simpa using World.var?_cell gLong hv3 0
  have k5 : W.cell? ⟨5, 0, none⟩ = some (.iface 40 (.pointer (some a5))) := by simpa using World.var?_cell gCut hv5 0
  exact ⟨a0, a1, a2, a3, c0, t0, k0, k1, k2, k3, hb0, World.block_lt_of_cell? W _ k5⟩

/-- The door's own heap meets the condition. -/
theorem door_met (os : Os) (args : Array Value) : laidMetH Ybad.prog Rows.lawS5001ARoundTripRow.laid ((World.doorLaid Ybad.prog 400 os).forCall (fun _ _ => 0) ⟨#[], args, []⟩).memory :=
  laidMetH_of_parts3 (fuel := 8) (laidMet_of_run' 8 (by kernel_rfl) (by kernel_rfl)) (by kernel_rfl) (by kernel_rfl)

/-- Three named variables read as three data. -/
theorem vars_three {H : Type} {enc : TypeId × Value → H} {P : Program} {w : World} {sp : Nat → Bool} {n0 n1 n2 : String} {gs : List (DataW H)} {ps : List MemPlace} (h : DataW.TrodVars enc P w sp [n0, n1, n2] gs ps) : ∃ d0 d1 d2, gs = [d0, d1, d2] := by
  match gs, h with
  | [], h => exact False.elim h
  | _ :: [], ⟨_, _, _, _, _, _, _, _, _, _, h, _⟩ => exact False.elim h
  | _ :: _ :: [], ⟨_, _, _, _, _, _, _, _, _, _, ⟨_, _, _, _, _, _, _, _, _, _, h, _⟩, _⟩ => exact False.elim h
  | [d0, d1, d2], _ => exact ⟨d0, d1, d2, rfl⟩
  | _ :: _ :: _ :: _ :: _, ⟨_, _, _, _, _, _, _, _, _, _, ⟨_, _, _, _, _, _, _, _, _, _, ⟨_, _, _, _, _, _, _, _, _, _, h, _⟩, _⟩, _⟩ => exact False.elim h

/-- The tail that came in: nil, or a row of bytes. -/
theorem open_tail {H : Type} {enc : TypeId × Value → H} {W : World} {a : Option Addr} {len cap : Nat} {d : DataW H} {p : List MemPlace}
    (h : DataW.Trod enc Ybad.prog W 0 (fun _ => true) true 22 (.slice a len cap) d p) :
    ∃ ts : List Int, len ≤ maxLen ∧ (a = none → len = 0 ∧ cap = 0) ∧ len ≤ ts.length ∧ (∀ j, 0 ≤ ts.getD j 0 ∧ ts.getD j 0 < 256) ∧
      (∀ ad, a = some ad → ∀ j u, ((ts.take len).map (Value.int .u8))[j]? = some u → W.cell? (ad.add j) = some u ∧ ad.block < W.heap.size) := by
  obtain ⟨fuel, hf⟩ := h
  rcases open_ints Ybad.underlying22 Ybad.underlying5 (by kernel_rfl) hf with ⟨hcs, _⟩ | ⟨x, l, c, zs, hcs, _, hl, hm, hz, _, hcell, hwz⟩
  · simp [Value.cells] at hcs
    obtain ⟨rfl, rfl, rfl⟩ := hcs
    exact ⟨[], Nat.zero_le _, fun _ => ⟨rfl, rfl⟩, Nat.zero_le _, fun j => by simp, fun ad h => by cases h⟩
  · simp [Value.cells] at hcs
    obtain ⟨rfl, rfl, rfl⟩ := hcs
    have hz' : zs.length = cap := by simpa using hz
    refine ⟨zs, by omega, (fun h => by cases h), by omega, fun j => ?_, fun ad had j u hu => ?_⟩
    · have := range_u8 hwz j
      rw [List.getD_eq_getElem?_getD]
      omega
    · obtain rfl := Option.some.inj had
      have hj : j < len := by
        have := (List.getElem?_eq_some_iff.1 hu).1
        simp at this
        omega
      have hc := hcell j (by omega)
      have e : ((zs.take len).map (Value.int .u8))[j]? = some (.int .u8 (zs.getD j 0)) := by
        simp [List.getD, hj, show j < zs.length by omega]
      rw [e] at hu
      refine ⟨hc.trans hu, ?_⟩
      have := World.block_lt_of_cell? W _ hc
      rw [show (x.add j).block = x.block from by unfold Addr.add; split <;> rfl] at this
      exact this

set_option maxRecDepth 100000 in
theorem lifted (os : Os) (started : os.Started) (H : Type) (enc : TypeId × Value → H) :
    ReturnsInHanded {} Ybad.checked os 4 .any (fun w args => (Rows.lawS5001ARoundTripSpec.pre enc Ybad.prog Ybad.f4 [] false w args ∧ laidMetH Ybad.prog Rows.lawS5001ARoundTripRow.laid w) ∧ sizedMet enc Ybad.prog Ybad.f4 (OpenSpec.ofChange Rows.lawS5001ARoundTripSpec) false w args)
      (Rows.lawS5001ARoundTripSpec.post enc Ybad.prog Ybad.f4 false true false false) := by
  refine returnsInHanded_of_change_and (C := Ybad.checked) (X := fun w _ => laidMetH Ybad.prog Rows.lawS5001ARoundTripRow.laid w) (fun _ _ _ hh h => h.of_heap hh) own started (by kernel_rfl) Ybad.func4
    (ChangeSpec.witness_shaped (enc := enc) (C := Ybad.checked) (os := os) (X := fun w _ => laidMetH Ybad.prog Rows.lawS5001ARoundTripRow.laid w) false (World.doorLaid Ybad.prog 400 os) #[.int .u64 0, .slice none 0 0] 8 rfl (World.shaped_of_RefB (by kernel_rfl) (by kernel_rfl)) (by kernel_rfl) (by kernel_rfl) (by kernel_rfl) (door_met os _)) ?_
  intro W base args ds gs before hval0 hW _ _ hL _
  have hval : ∀ (j : Nat) t v, Ybad.f4.params[j]? = some t → args[j]? = some v → Value.okWide Ybad.prog W .any base t v := hval0
  have hW' := hW
  obtain ⟨p, q, hA0, hV, rfl, hfz, hnd⟩ := hW
  have hA : DataW.TrodAll enc Ybad.prog W 0 (fun _ => true) true Ybad.f4.params.toList args.toList ds p := hA0
  rw [Ybad.params4] at hA hval
  obtain ⟨v0, v1, d0, d1, p0, p1, rfl, rfl, rfl, h0, h1⟩ := trodAll_two hA
  obtain ⟨g1, g2, g3, rfl⟩ := vars_three hV
  obtain ⟨x, rfl, rfl, rfl, wx⟩ := open_int Ybad.underlying29 (hval 0 29 v0 rfl rfl) h0
  obtain ⟨a, len, cap, rfl⟩ := okWide_slice Ybad.underlying22 (hval 1 22 v1 rfl rfl)
  have k1 := h1
  have lt1 : ∀ y ∈ p1, y.block < W.heap.size := by obtain ⟨m, hm⟩ := k1; exact DataW.trod_lt m _ _ _ hm
  obtain ⟨ts, hlen, hnil, hts, hbyte, hda⟩ := open_tail h1
  obtain ⟨a0, a1, a2, a3, c0, t0, w0, w1, w2, w3, hb0, h5⟩ := of_laid hL
  have hx := bounds_u64 wx
  obtain ⟨X, rfl⟩ := Int.eq_ofNat_of_zero_le hx.1
  clear hA0 hval0
  have fin : ∀ (e : Ending) (W' : World), (e = .returned (.bool true) ∧ Below W.heap.size W W') → ∃ v, e = .returned v ∧ Rows.lawS5001ARoundTripSpec.post enc Ybad.prog Ybad.f4 false true false false W #[.int .u64 X, .slice a len cap] v W' := by
    rintro e W' ⟨rfl, bel⟩
    exact ⟨_, rfl, _, _, _, [], _, _, hW', trodAll_mk1 (shut_bool Ybad.underlying4 _), trodAll_cons_mk (shut_int Ybad.underlying29 wx) (trodAll_cons_mk (Below.trod laidOut (by kernel_rfl) (of_decide_eq_true (by kernel_rfl)) k1 bel lt1) trodAll_mk0), Below.trodVars laidOut bel (by kernel_rfl) hV, bel.frame _, fun h => by cases h⟩
  by_cases hbig : 1024 < len
  · exact (lawR_long X len cap a W hlen hbig).mono fin
  · exact (lawR X len cap (by omega) a ts a0 a1 a2 a3 W (by omega) h5 hnil hda hts hbyte w0 w1 w2 w3).mono fin

theorem holds : Rows.LawS5001ARoundTripSaid :=
  OpenClaim.holds_of_wide 4 Ybad.f4 rfl rfl rfl rfl rfl rfl rfl ⟨rfl, rfl, rfl, rfl, rfl⟩ rfl rfl rfl rfl rfl (by kernel_rfl) Ybad.func4 (by kernel_rfl)
    (of_decide_eq_true (by kernel_rfl)) (by unfold Func.isWrapper; first | (rw [if_pos (by decide +kernel)]; kernel_rfl) | (rw [if_neg (by decide +kernel)]; exact ⟨rfl, rfl⟩))
    (fun os started H enc _ => lifted os started H enc)
end RT

/-- ████ THE TIED CARD ████ -/
theorem roundTripCard_holds : Rows.LawS5001ARoundTripCardSaid :=
  Claim7.holds_tied_plain_at .later [] [.sentinel, .sentinel, .sentinel, .sentinel, .sentinel] true (true, "e5867c9b504dc642a89f2c154ebeebed69a474b2347b2edd410d6e5dcd6dcb16") true
    RT.holds (fun _ h => by cases h) (by kernel_rfl) (fun _ h => by cases h) lawS5001ARoundTrip_row_tie rfl ⟨rfl, rfl⟩ (by kernel_rfl) rfl
    (fun f fn hf hfn => by
      obtain rfl : f = 4 := Option.some.inj ((show Ybad.prog.funcNamed Rows.lawS5001ARoundTripRow.func = some 4 by kernel_rfl).symm.trans hf) |>.symm
      obtain rfl : fn = Ybad.f4 := (Option.some.inj (Ybad.func4.symm.trans hfn)).symm
      exact ⟨by kernel_rfl, fun j t ht => by
        rw [Ybad.params4] at ht
        have hm : t ∈ [29, 22] := by simpa using Array.mem_of_getElem? ht
        have hall : ([29, 22].all fun u => !Ybad.prog.wantsStandIn u) = true := by kernel_rfl
        exact (show Ybad.prog.wantsStandIn t = false by simpa using List.all_eq_true.1 hall t hm)⟩)
    (by kernel_rfl)

end Go.Proofs.YbulkcynwDoor
