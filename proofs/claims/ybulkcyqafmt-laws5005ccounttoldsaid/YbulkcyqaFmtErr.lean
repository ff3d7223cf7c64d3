/-
  fmt.Errorf at the one format of (*history).count: the closed facts over the stop 'fmt.errorf' (after the kit's CheckFmt.lean), and what the call comes to: a new error, new blocks alone.
-/
import Derived.Test.YbulkcyqaFmtProg
import Derived.Stop.CallBack
import Derived.Stop.IfaceNil
import GoSem.ClaimData
import Derived.WalkKit
import Derived.WalkSmall
import Derived.WalkSpells
namespace Go.Proofs.YbulkcyqaFmt
set_option linter.unusedVariables false
set_option linter.unusedSimpArgs false
open Go.RowKit Go.Extern.Stop Go.Stop Go.Extern

abbrev fmtS : ByteArray := ⟨#[116, 104, 101, 32, 106, 111, 117, 114, 110, 97, 108, 39, 115, 32, 100, 101, 99, 105, 115, 105, 111, 110, 115, 32, 111, 110, 32, 37, 100, 39, 115, 32, 114, 101, 115, 117, 108, 116, 115, 32, 100, 101, 99, 105, 100, 101, 32, 109, 111, 114, 101, 32, 116, 104, 97, 110, 32, 37, 100, 32, 115, 104, 97, 114, 101, 115]⟩

theorem call16 (args : Array Value) (w : World) : (callFunc 16 args).run Ybaf.prog w = ((FmtStop.errorf #[9, 93] #[69] args).run Ybaf.prog w).andThen fun v w' => .ok (.value v) w' :=
  run_callFunc_extern Ybaf.func16 (by kernel_rfl) (by kernel_rfl) (by kernel_rfl) (by kernel_rfl) args w
theorem guard (name : String) (w : World) : (FmtStop.guard name).run Ybaf.prog w = .ok () w := by kernel_rfl
theorem fmt0 : FmtStop.printed? fmtS 2 = some [(0, 100, false), (1, 100, false)] := by kernel_rfl
theorem fmt0r (w : World) : (FmtDoors.printed fmtS 2).run Ybaf.prog w = .ok [(0, 100, false), (1, 100, false)] w := by kernel_rfl
def shape3 : List UInt8 := [5, 3, 0, 0, 0, 0, 0, 0, 0, 105, 110, 116]
def shape2 : List UInt8 := [5, 5, 0, 0, 0, 0, 0, 0, 0, 105, 110, 116, 54, 52]
theorem op3 (name : String) (b : Bool) (x : Int) (w : World) : (FmtStop.operand name b 100 false (.iface 3 (.int .i64 x))).run Ybaf.prog w = .ok (shape3, Go.Extern.Stop.digits 8 (x % 2 ^ 64).toNat) w := by cases b <;> kernel_rfl
theorem op2 (name : String) (b : Bool) (x : Int) (w : World) : (FmtStop.operand name b 100 false (.iface 2 (.int .i64 x))).run Ybaf.prog w = .ok (shape2, Go.Extern.Stop.digits 8 (x % 2 ^ 64).toNat) w := by cases b <;> kernel_rfl
theorem ptr101 (w : World) : (FmtStop.ptrTo "errors.errorString").run Ybaf.prog w = .ok 101 w := by kernel_rfl
theorem elem101 (w : World) : (elemOf 101).run Ybaf.prog w = .ok 103 w := by kernel_rfl
theorem isError101 (w : World) : (FmtDoors.textMethod 101 "Error").run Ybaf.prog w = .ok true w := by kernel_rfl

attribute [local go_sem] call16 guard op3 op2 ptr101 elem101 isError101

set_option maxHeartbeats 1000000 in
theorem errorf11 (F : Interp) (y : Int) (B : Nat) (w : World) (hF : F.answers w.tape)
    (h0 : w.cell? ⟨B, 0, none⟩ = some (.iface 3 (.int .i64 y))) (h1 : w.cell? ⟨B, 1, none⟩ = some (.iface 2 (.int .i64 9223372036854775807))) :
    Calls Ybaf.prog 11 #[.string fmtS, .slice (some ⟨B, 0, none⟩) 2 2] w fun e w' => ∃ a, e = .returned (.iface 101 (.pointer (some a))) ∧ Below w.heap.size w w' := by
  have hF' := answers_open hF
  have f1 := fmt0
  have f2 := fmt0r
  generalize fmtS = s at f1 f2
  go_enter Ybaf.func11, Ybaf.ntmps11
  go_wp2
  go_ret
  exact ⟨_, rfl, (Below.alloc (Below.refl _ _) (Nat.le_refl _) _).drew⟩

end Go.Proofs.YbulkcyqaFmt
