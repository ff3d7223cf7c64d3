/-
  (*unlock.history).count (function 7): THE WALKS.
-/
import Derived.Test.YbulkcyqaFmtErr
import Derived.BigQuiet
import Derived.RegionTactic
import Derived.Maps.OwnSet
import Derived.Outline
namespace Go.Proofs.YbulkcyqaFmt
set_option linter.unusedVariables false
set_option linter.unusedSimpArgs false
open Go.RowKit Go.Extern.Stop Go.Stop Go.Extern

/-- The event that the law hands on. -/
def ev (kd hol rs : ByteArray) (q idx y : Int) : Array Value :=
  #[.int .u64 0, .int .i64 0, .pointer none, .string kd, .string hol, .int .i64 q, .pointer none, .string ⟨#[]⟩, .int .i64 idx, .int .i64 y, .string ⟨#[]⟩, .string ⟨#[]⟩, .string rs, .string ⟨#[]⟩, .pointer none, .int .i64 0]

set_option maxHeartbeats 1000000 in
/-- The quantity would pass MaxInt64: an error, and nothing that was there has turned. -/
theorem count_refuse (F : Interp) (kd hol rs : ByteArray) (q idx y ds : Int) (H Pb : Nat) (w : World) (hF : F.answers w.tape) (hH : H < w.heap.size)
    (hds : w.cell? ⟨H, 7, none⟩ = some (.int .i64 ds)) (h0 : 0 ≤ ds) (h1 : ds ≤ 9223372036854775807) (hq : 9223372036854775807 - ds < q) :
    Calls Ybaf.prog 7 #[.pointer (some ⟨H, 0, none⟩), .pointer (some ⟨Pb, 0, none⟩), .agg (ev kd hol rs q idx y)] w fun e w' => ∃ a, e = .returned (.iface 101 (.pointer (some a))) ∧ Below w.heap.size w w' := by
  unfold ev
  go_enter Ybaf.func7, Ybaf.ntmps7
  go_wp2
  go_quiet (fail)
  go_wp2_with fail
  refine (errorf11 F y (w.heap.size + 1) _ ?_ ?_ ?_).mono ?_
  · exact hF
  · go_simp
  · go_simp
  rintro e w' ⟨a, rfl, hb⟩
  have hb' : Below w.heap.size w w' := (below_drewN (Below.alloc (Below.alloc (Below.refl _ _) (Nat.le_refl _) _) (by simp) _) _).trans (hb.mono (by simp; omega))
  clear hb
  go_wp2
  go_ret
  exact ⟨a, rfl, hb'⟩

end Go.Proofs.YbulkcyqaFmt
