/-
  THE CLOSED FACTS FOR A WALK OVER fmt.errorf, FOR THIS PROGRAM (typed after the guide's worked texts), AND fmt.Errorf BY ITS CONTRACT.
-/
import Derived.Test.Qxb6604368aFmtStr
import Derived.Stop.CallBack
import Derived.Stop.IfaceNil
import Derived.WalkSpells
import GoSem.ClaimData
namespace Go.Proofs
open Go.Extern.Stop Go.Stop Go.Extern

@[go_sem] theorem Tryf.call31 (args : Array Value) (w : World) : (callFunc 31 args).run Tryf.prog w = ((FmtStop.errorf #[9, 50] #[26] args).run Tryf.prog w).andThen fun v w' => .ok (.value v) w' :=
  run_callFunc_extern Tryf.func31 (by kernel_rfl) (by kernel_rfl) (by kernel_rfl) (by kernel_rfl) args w
@[go_sem] theorem Tryf.guard (name : String) (w : World) : (FmtStop.guard name).run Tryf.prog w = .ok () w := by kernel_rfl
def Tryf.form0 : ByteArray := ⟨#[108, 105, 110, 101, 32, 37, 100, 58, 32, 116, 97, 98, 108, 101, 115, 32, 97, 110, 100, 32, 97, 114, 114, 97, 121, 115, 32, 110, 101, 115, 116, 32, 109, 111, 114, 101, 32, 116, 104, 97, 110, 32, 37, 100, 32, 100, 101, 101, 112]⟩
@[go_sem] theorem Tryf.fmt0a : FmtStop.printed? ⟨#[108, 105, 110, 101, 32, 37, 100, 58, 32, 116, 97, 98, 108, 101, 115, 32, 97, 110, 100, 32, 97, 114, 114, 97, 121, 115, 32, 110, 101, 115, 116, 32, 109, 111, 114, 101, 32, 116, 104, 97, 110, 32, 37, 100, 32, 100, 101, 101, 112]⟩ 2 = some [(0, 100, false), (1, 100, false)] := by kernel_rfl
@[go_sem] theorem Tryf.fmt0b (w : World) : (FmtDoors.printed ⟨#[108, 105, 110, 101, 32, 37, 100, 58, 32, 116, 97, 98, 108, 101, 115, 32, 97, 110, 100, 32, 97, 114, 114, 97, 121, 115, 32, 110, 101, 115, 116, 32, 109, 111, 114, 101, 32, 116, 104, 97, 110, 32, 37, 100, 32, 100, 101, 101, 112]⟩ 2).run Tryf.prog w = .ok [(0, 100, false), (1, 100, false)] w := by kernel_rfl
@[go_sem] theorem Tryf.fmt0c : FmtStop.printed? ⟨#[108, 105, 110, 101, 32, 37, 100, 58, 32, 116, 97, 98, 108, 101, 115, 32, 97, 110, 100, 32, 97, 114, 114, 97, 121, 115, 32, 110, 101, 115, 116, 32, 109, 111, 114, 101, 32, 116, 104, 97, 110, 32, 37, 100, 32, 100, 101, 101, 112]⟩ 0 = some [] := by kernel_rfl
@[go_sem] theorem Tryf.fmt0d (w : World) : (FmtDoors.printed ⟨#[108, 105, 110, 101, 32, 37, 100, 58, 32, 116, 97, 98, 108, 101, 115, 32, 97, 110, 100, 32, 97, 114, 114, 97, 121, 115, 32, 110, 101, 115, 116, 32, 109, 111, 114, 101, 32, 116, 104, 97, 110, 32, 37, 100, 32, 100, 101, 101, 112]⟩ 0).run Tryf.prog w = .ok [] w := by kernel_rfl
def Tryf.form1 : ByteArray := ⟨#[108, 105, 110, 101, 32, 37, 100, 58, 32, 97, 32, 107, 101, 121, 32, 119, 114, 105, 116, 116, 101, 110, 32, 111, 117, 116, 32, 105, 110, 32, 102, 117, 108, 108, 32, 105, 115, 32, 108, 111, 110, 103, 101, 114, 32, 116, 104, 97, 110, 32, 37, 100, 32, 98, 121, 116, 101, 115]⟩
@[go_sem] theorem Tryf.fmt1a : FmtStop.printed? ⟨#[108, 105, 110, 101, 32, 37, 100, 58, 32, 97, 32, 107, 101, 121, 32, 119, 114, 105, 116, 116, 101, 110, 32, 111, 117, 116, 32, 105, 110, 32, 102, 117, 108, 108, 32, 105, 115, 32, 108, 111, 110, 103, 101, 114, 32, 116, 104, 97, 110, 32, 37, 100, 32, 98, 121, 116, 101, 115]⟩ 2 = some [(0, 100, false), (1, 100, false)] := by kernel_rfl
@[go_sem] theorem Tryf.fmt1b (w : World) : (FmtDoors.printed ⟨#[108, 105, 110, 101, 32, 37, 100, 58, 32, 97, 32, 107, 101, 121, 32, 119, 114, 105, 116, 116, 101, 110, 32, 111, 117, 116, 32, 105, 110, 32, 102, 117, 108, 108, 32, 105, 115, 32, 108, 111, 110, 103, 101, 114, 32, 116, 104, 97, 110, 32, 37, 100, 32, 98, 121, 116, 101, 115]⟩ 2).run Tryf.prog w = .ok [(0, 100, false), (1, 100, false)] w := by kernel_rfl
@[go_sem] theorem Tryf.fmt1c : FmtStop.printed? ⟨#[108, 105, 110, 101, 32, 37, 100, 58, 32, 97, 32, 107, 101, 121, 32, 119, 114, 105, 116, 116, 101, 110, 32, 111, 117, 116, 32, 105, 110, 32, 102, 117, 108, 108, 32, 105, 115, 32, 108, 111, 110, 103, 101, 114, 32, 116, 104, 97, 110, 32, 37, 100, 32, 98, 121, 116, 101, 115]⟩ 0 = some [] := by kernel_rfl
@[go_sem] theorem Tryf.fmt1d (w : World) : (FmtDoors.printed ⟨#[108, 105, 110, 101, 32, 37, 100, 58, 32, 97, 32, 107, 101, 121, 32, 119, 114, 105, 116, 116, 101, 110, 32, 111, 117, 116, 32, 105, 110, 32, 102, 117, 108, 108, 32, 105, 115, 32, 108, 111, 110, 103, 101, 114, 32, 116, 104, 97, 110, 32, 37, 100, 32, 98, 121, 116, 101, 115]⟩ 0).run Tryf.prog w = .ok [] w := by kernel_rfl
def Tryf.form2 : ByteArray := ⟨#[108, 105, 110, 101, 32, 37, 100, 58, 32, 116, 104, 101, 32, 100, 111, 99, 117, 109, 101, 110, 116, 32, 104, 111, 108, 100, 115, 32, 109, 111, 114, 101, 32, 116, 104, 97, 110, 32, 37, 100, 32, 107, 101, 121, 115, 32, 97, 110, 100, 32, 118, 97, 108, 117, 101, 115]⟩
@[go_sem] theorem Tryf.fmt2a : FmtStop.printed? ⟨#[108, 105, 110, 101, 32, 37, 100, 58, 32, 116, 104, 101, 32, 100, 111, 99, 117, 109, 101, 110, 116, 32, 104, 111, 108, 100, 115, 32, 109, 111, 114, 101, 32, 116, 104, 97, 110, 32, 37, 100, 32, 107, 101, 121, 115, 32, 97, 110, 100, 32, 118, 97, 108, 117, 101, 115]⟩ 2 = some [(0, 100, false), (1, 100, false)] := by kernel_rfl
@[go_sem] theorem Tryf.fmt2b (w : World) : (FmtDoors.printed ⟨#[108, 105, 110, 101, 32, 37, 100, 58, 32, 116, 104, 101, 32, 100, 111, 99, 117, 109, 101, 110, 116, 32, 104, 111, 108, 100, 115, 32, 109, 111, 114, 101, 32, 116, 104, 97, 110, 32, 37, 100, 32, 107, 101, 121, 115, 32, 97, 110, 100, 32, 118, 97, 108, 117, 101, 115]⟩ 2).run Tryf.prog w = .ok [(0, 100, false), (1, 100, false)] w := by kernel_rfl
@[go_sem] theorem Tryf.fmt2c : FmtStop.printed? ⟨#[108, 105, 110, 101, 32, 37, 100, 58, 32, 116, 104, 101, 32, 100, 111, 99, 117, 109, 101, 110, 116, 32, 104, 111, 108, 100, 115, 32, 109, 111, 114, 101, 32, 116, 104, 97, 110, 32, 37, 100, 32, 107, 101, 121, 115, 32, 97, 110, 100, 32, 118, 97, 108, 117, 101, 115]⟩ 0 = some [] := by kernel_rfl
@[go_sem] theorem Tryf.fmt2d (w : World) : (FmtDoors.printed ⟨#[108, 105, 110, 101, 32, 37, 100, 58, 32, 116, 104, 101, 32, 100, 111, 99, 117, 109, 101, 110, 116, 32, 104, 111, 108, 100, 115, 32, 109, 111, 114, 101, 32, 116, 104, 97, 110, 32, 37, 100, 32, 107, 101, 121, 115, 32, 97, 110, 100, 32, 118, 97, 108, 117, 101, 115]⟩ 0).run Tryf.prog w = .ok [] w := by kernel_rfl
def Tryf.shape3 : List UInt8 := [5, 3, 0, 0, 0, 0, 0, 0, 0, 105, 110, 116]
@[go_sem] theorem Tryf.op3_100 (name : String) (x : Int) (w : World) : (FmtStop.operand name false 100 false (.iface 3 (.int .i64 x))).run Tryf.prog w = .ok (Tryf.shape3, Go.Extern.Stop.digits 8 (x % 2 ^ 64).toNat) w := by kernel_rfl
@[go_sem] theorem Tryf.op3_100w (name : String) (x : Int) (w : World) : (FmtStop.operand name true 100 false (.iface 3 (.int .i64 x))).run Tryf.prog w = .ok (Tryf.shape3, Go.Extern.Stop.digits 8 (x % 2 ^ 64).toNat) w := by kernel_rfl
@[go_sem] theorem Tryf.ptr56 (w : World) : (FmtStop.ptrTo "errors.errorString").run Tryf.prog w = .ok 56 w := by kernel_rfl
@[go_sem] theorem Tryf.elem56 (w : World) : (elemOf 56).run Tryf.prog w = .ok 58 w := by kernel_rfl
@[go_sem] theorem Tryf.isError56 (w : World) : (FmtDoors.textMethod 56 "Error").run Tryf.prog w = .ok true w := by kernel_rfl

namespace Qxb6604368aFmt
open Go.RowKit
set_option linter.unusedVariables false

set_option maxHeartbeats 1000000 in
theorem errorf0 (F : Interp) (x y : Int) (b : Nat) (w : World) (hF : F.answers w.tape) (h0 : w.cell? ⟨b, 0, none⟩ = some (.iface 3 (.int .i64 x))) (h1 : w.cell? ⟨b, 1, none⟩ = some (.iface 3 (.int .i64 y))) :
    Calls Tryf.prog 26 #[.string Tryf.form0, .slice (some ⟨b, 0, none⟩) 2 2] w fun e w' => ∃ v o, e = .returned (.iface 56 v) ∧ w' = (w.alloc o).drew := by
  have hF' := answers_open hF
  unfold Tryf.form0
  go_enter Tryf.func26, Tryf.ntmps26
  go_wp2
  go_ret
  exact ⟨_, _, rfl, rfl⟩

set_option maxHeartbeats 1000000 in
theorem errorf1 (F : Interp) (x y : Int) (b : Nat) (w : World) (hF : F.answers w.tape) (h0 : w.cell? ⟨b, 0, none⟩ = some (.iface 3 (.int .i64 x))) (h1 : w.cell? ⟨b, 1, none⟩ = some (.iface 3 (.int .i64 y))) :
    Calls Tryf.prog 26 #[.string Tryf.form1, .slice (some ⟨b, 0, none⟩) 2 2] w fun e w' => ∃ v o, e = .returned (.iface 56 v) ∧ w' = (w.alloc o).drew := by
  have hF' := answers_open hF
  unfold Tryf.form1
  go_enter Tryf.func26, Tryf.ntmps26
  go_wp2
  go_ret
  exact ⟨_, _, rfl, rfl⟩

set_option maxHeartbeats 1000000 in
theorem errorf2 (F : Interp) (x y : Int) (b : Nat) (w : World) (hF : F.answers w.tape) (h0 : w.cell? ⟨b, 0, none⟩ = some (.iface 3 (.int .i64 x))) (h1 : w.cell? ⟨b, 1, none⟩ = some (.iface 3 (.int .i64 y))) :
    Calls Tryf.prog 26 #[.string Tryf.form2, .slice (some ⟨b, 0, none⟩) 2 2] w fun e w' => ∃ v o, e = .returned (.iface 56 v) ∧ w' = (w.alloc o).drew := by
  have hF' := answers_open hF
  unfold Tryf.form2
  go_enter Tryf.func26, Tryf.ntmps26
  go_wp2
  go_ret
  exact ⟨_, _, rfl, rfl⟩

end Qxb6604368aFmt
end Go.Proofs
