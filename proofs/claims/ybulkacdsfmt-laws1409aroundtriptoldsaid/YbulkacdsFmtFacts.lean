/- The closed facts for a walk over fmt's stopped front fmt.errorf, at this program's numbers. -/
import Derived.Test.YbulkacdsFmtRows
import Derived.Stop.CallBack
import Derived.Stop.IfaceNil
import GoSem.ClaimData
namespace Go.Proofs
open Go.Extern.Stop Go.Stop Go.Extern

theorem Ybaf.call32 (args : Array Value) (w : World) : (callFunc 32 args).run Ybaf.prog w = ((FmtStop.errorf #[9, 65] #[33] args).run Ybaf.prog w).andThen fun v w' => .ok (.value v) w' :=
  run_callFunc_extern Ybaf.func32 (by kernel_rfl) (by kernel_rfl) (by kernel_rfl) (by kernel_rfl) args w
theorem Ybaf.guard (name : String) (w : World) : (FmtStop.guard name).run Ybaf.prog w = .ok () w := by kernel_rfl
theorem Ybaf.fFit : FmtStop.printed? ⟨#[37, 100, 32, 98, 121, 116, 101, 115, 32, 100, 111, 32, 110, 111, 116, 32, 102, 105, 116, 32, 97, 32, 37, 100, 45, 98, 121, 116, 101, 32, 108, 101, 110, 103, 116, 104]⟩ 2 = some [(0, 100, false), (1, 100, false)] := by kernel_rfl
theorem Ybaf.fFitr (w : World) : (FmtDoors.printed ⟨#[37, 100, 32, 98, 121, 116, 101, 115, 32, 100, 111, 32, 110, 111, 116, 32, 102, 105, 116, 32, 97, 32, 37, 100, 45, 98, 121, 116, 101, 32, 108, 101, 110, 103, 116, 104]⟩ 2).run Ybaf.prog w = .ok [(0, 100, false), (1, 100, false)] w := by kernel_rfl
def Ybaf.shape3 : List UInt8 := [5, 3, 0, 0, 0, 0, 0, 0, 0, 105, 110, 116]
theorem Ybaf.op3_100 (name : String) (x : Int) (w : World) : (FmtStop.operand name false 100 false (.iface 3 (.int .i64 x))).run Ybaf.prog w = .ok (Ybaf.shape3, Go.Extern.Stop.digits 8 (x % 2 ^ 64).toNat) w := by kernel_rfl
theorem Ybaf.op3_100w (name : String) (x : Int) (w : World) : (FmtStop.operand name true 100 false (.iface 3 (.int .i64 x))).run Ybaf.prog w = .ok (Ybaf.shape3, Go.Extern.Stop.digits 8 (x % 2 ^ 64).toNat) w := by kernel_rfl
theorem Ybaf.ptr60 (w : World) : (FmtStop.ptrTo "errors.errorString").run Ybaf.prog w = .ok 60 w := by kernel_rfl
theorem Ybaf.elem60 (w : World) : (elemOf 60).run Ybaf.prog w = .ok 62 w := by kernel_rfl
theorem Ybaf.isError60 (w : World) : (FmtDoors.textMethod 60 "Error").run Ybaf.prog w = .ok true w := by kernel_rfl

end Go.Proofs
