/-
  Closed facts for a walk over fmt's stopped front at this program's one format (after the kit's worked CheckFmt text).
-/
import Derived.Test.Qxb6627383aFmtRows
import Derived.Stop.CallBack
import Derived.Stop.IfaceNil
import GoSem.ClaimData
namespace Go.Proofs
open Go.Extern.Stop Go.Stop Go.Extern

theorem Tryf.call7 (args : Array Value) (w : World) : (callFunc 7 args).run Tryf.prog w = ((FmtStop.errorf #[9, 31] #[25] args).run Tryf.prog w).andThen fun v w' => .ok (.value v) w' :=
  run_callFunc_extern Tryf.func7 (by kernel_rfl) (by kernel_rfl) (by kernel_rfl) (by kernel_rfl) args w

theorem Tryf.guard (name : String) (w : World) : (FmtStop.guard name).run Tryf.prog w = .ok () w := by kernel_rfl

theorem Tryf.fmt0 : FmtStop.printed? ⟨#[37, 100, 32, 114, 101, 116, 114, 121, 32, 99, 97, 108, 108, 115, 32, 109, 97, 100, 101, 32, 37, 100, 32, 99, 97, 108, 108, 115, 32, 111, 102, 32, 116, 104, 101, 32, 111, 112, 101, 114, 97, 116, 105, 111, 110, 44, 32, 119, 97, 110, 116, 32, 37, 100]⟩ 3 = some [(0, 100, false), (1, 100, false), (2, 100, false)] := by kernel_rfl
theorem Tryf.fmt0r (w : World) : (FmtDoors.printed ⟨#[37, 100, 32, 114, 101, 116, 114, 121, 32, 99, 97, 108, 108, 115, 32, 109, 97, 100, 101, 32, 37, 100, 32, 99, 97, 108, 108, 115, 32, 111, 102, 32, 116, 104, 101, 32, 111, 112, 101, 114, 97, 116, 105, 111, 110, 44, 32, 119, 97, 110, 116, 32, 37, 100]⟩ 3).run Tryf.prog w = .ok [(0, 100, false), (1, 100, false), (2, 100, false)] w := by kernel_rfl

def Tryf.shape3 : List UInt8 := [5, 3, 0, 0, 0, 0, 0, 0, 0, 105, 110, 116]
theorem Tryf.op3_100 (name : String) (x : Int) (w : World) : (FmtStop.operand name false 100 false (.iface 3 (.int .i64 x))).run Tryf.prog w = .ok (Tryf.shape3, Go.Extern.Stop.digits 8 (x % 2 ^ 64).toNat) w := by kernel_rfl
theorem Tryf.op3_100w (name : String) (x : Int) (w : World) : (FmtStop.operand name true 100 false (.iface 3 (.int .i64 x))).run Tryf.prog w = .ok (Tryf.shape3, Go.Extern.Stop.digits 8 (x % 2 ^ 64).toNat) w := by kernel_rfl
theorem Tryf.strict3 (name : String) (x : Int) (w : World) : (FmtStop.strict name (.iface 3 (.int .i64 x))).run Tryf.prog w = .ok (Tryf.shape3, Go.Extern.Stop.digits 8 (x % 2 ^ 64).toNat) w := by kernel_rfl

theorem Tryf.ptr34 (w : World) : (FmtStop.ptrTo "errors.errorString").run Tryf.prog w = .ok 34 w := by kernel_rfl
theorem Tryf.elem34 (w : World) : (elemOf 34).run Tryf.prog w = .ok 36 w := by kernel_rfl
theorem Tryf.isError34' (w : World) : (FmtDoors.textMethod 34 "Error").run Tryf.prog w = .ok true w := by kernel_rfl
end Go.Proofs
