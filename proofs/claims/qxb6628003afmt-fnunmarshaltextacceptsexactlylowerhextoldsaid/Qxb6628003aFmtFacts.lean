import Derived.Test.Qxb6628003aFmtProg
import Derived.Stop.CallBack
import Derived.Stop.IfaceNil
import GoSem.ClaimData
namespace Go.Proofs.Qxb6628003aFmt
open Go.Extern.Stop Go.Stop Go.Extern

theorem Tryf.call15 (args : Array Value) (w : World) : (callFunc 15 args).run Tryf.prog w = ((FmtStop.errorf #[9, 42] #[26] args).run Tryf.prog w).andThen fun v w' => .ok (.value v) w' :=
  run_callFunc_extern Tryf.func15 (by kernel_rfl) (by kernel_rfl) (by kernel_rfl) (by kernel_rfl) args w
theorem Tryf.guard (name : String) (w : World) : (FmtStop.guard name).run Tryf.prog w = .ok () w := by kernel_rfl
theorem Tryf.fmt0 : FmtStop.printed? ⟨#[100, 105, 103, 101, 115, 116, 58, 32, 37, 100, 32, 98, 121, 116, 101, 115, 44, 32, 119, 97, 110, 116, 32, 37, 100, 32, 108, 111, 119, 101, 114, 99, 97, 115, 101, 32, 104, 101, 120, 32, 100, 105, 103, 105, 116, 115]⟩ 2 = some [(0, 100, false), (1, 100, false)] := by kernel_rfl
theorem Tryf.fmt0r (w : World) : (FmtDoors.printed ⟨#[100, 105, 103, 101, 115, 116, 58, 32, 37, 100, 32, 98, 121, 116, 101, 115, 44, 32, 119, 97, 110, 116, 32, 37, 100, 32, 108, 111, 119, 101, 114, 99, 97, 115, 101, 32, 104, 101, 120, 32, 100, 105, 103, 105, 116, 115]⟩ 2).run Tryf.prog w = .ok [(0, 100, false), (1, 100, false)] w := by kernel_rfl
theorem Tryf.fmt1 : FmtStop.printed? ⟨#[100, 105, 103, 101, 115, 116, 58, 32, 110, 111, 116, 32, 37, 100, 32, 108, 111, 119, 101, 114, 99, 97, 115, 101, 32, 104, 101, 120, 32, 100, 105, 103, 105, 116, 115]⟩ 1 = some [(0, 100, false)] := by kernel_rfl
theorem Tryf.fmt1r (w : World) : (FmtDoors.printed ⟨#[100, 105, 103, 101, 115, 116, 58, 32, 110, 111, 116, 32, 37, 100, 32, 108, 111, 119, 101, 114, 99, 97, 115, 101, 32, 104, 101, 120, 32, 100, 105, 103, 105, 116, 115]⟩ 1).run Tryf.prog w = .ok [(0, 100, false)] w := by kernel_rfl
def Tryf.shape3 : List UInt8 := [5, 3, 0, 0, 0, 0, 0, 0, 0, 105, 110, 116]
theorem Tryf.op3_100 (name : String) (x : Int) (w : World) : (FmtStop.operand name false 100 false (.iface 3 (.int .i64 x))).run Tryf.prog w = .ok (Tryf.shape3, Go.Extern.Stop.digits 8 (x % 2 ^ 64).toNat) w := by kernel_rfl
theorem Tryf.op3_100w (name : String) (x : Int) (w : World) : (FmtStop.operand name true 100 false (.iface 3 (.int .i64 x))).run Tryf.prog w = .ok (Tryf.shape3, Go.Extern.Stop.digits 8 (x % 2 ^ 64).toNat) w := by kernel_rfl
theorem Tryf.ptr46 (w : World) : (FmtStop.ptrTo "errors.errorString").run Tryf.prog w = .ok 46 w := by kernel_rfl
theorem Tryf.elem46 (w : World) : (elemOf 46).run Tryf.prog w = .ok 48 w := by kernel_rfl
theorem Tryf.isError46 (w : World) : (FmtDoors.textMethod 46 "Error").run Tryf.prog w = .ok true w := by kernel_rfl

end Go.Proofs.Qxb6628003aFmt
