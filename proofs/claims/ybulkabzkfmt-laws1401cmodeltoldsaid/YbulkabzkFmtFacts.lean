/- The closed facts for a walk over fmt's stopped front fmt.errorf (the calling stop), at this program's numbers. -/
import Derived.Test.YbulkabzkFmtRows
import Derived.Stop.CallBack
import Derived.Stop.IfaceNil
import GoSem.ClaimData
namespace Go.Proofs
open Go.Extern.Stop Go.Stop Go.Extern

theorem Ybaf.call42 (args : Array Value) (w : World) : (callFunc 42 args).run Ybaf.prog w = (FmtCalls.errorf #[9, 109] #[32] args).run Ybaf.prog w :=
  run_callFunc_next Ybaf.func42 (by kernel_rfl) (by kernel_rfl) (by kernel_rfl) args w
theorem Ybaf.guard (name : String) (w : World) : (FmtStop.guard name).run Ybaf.prog w = .ok () w := by kernel_rfl
theorem Ybaf.nextTurns : Extern.next FmtCalls.turnsRow = some (FmtCalls.begun #[] #[]) := by kernel_rfl
theorem Ybaf.nextReturned : Extern.next FmtCalls.returnedRow = some (FmtCalls.returned #[] #[]) := by kernel_rfl
theorem Ybaf.fCall : FmtStop.printed? ⟨#[99, 97, 108, 108, 32, 119, 104, 101, 110, 32, 97, 110, 32, 111, 112, 101, 110, 105, 110, 103, 32, 98, 101, 116, 32, 111, 102, 32, 37, 100, 32, 105, 115, 32, 100, 117, 101]⟩ 1 = some [(0, 100, false)] := by kernel_rfl
theorem Ybaf.fCallr (w : World) : (FmtDoors.printed ⟨#[99, 97, 108, 108, 32, 119, 104, 101, 110, 32, 97, 110, 32, 111, 112, 101, 110, 105, 110, 103, 32, 98, 101, 116, 32, 111, 102, 32, 37, 100, 32, 105, 115, 32, 100, 117, 101]⟩ 1).run Ybaf.prog w = .ok [(0, 100, false)] w := by kernel_rfl
theorem Ybaf.fFold1 : FmtStop.printed? ⟨#[102, 111, 108, 100, 32, 105, 110, 115, 116, 101, 97, 100, 32, 111, 102, 32, 116, 104, 101, 32, 114, 111, 117, 110, 100, 39, 115, 32, 102, 105, 114, 115, 116, 32, 111, 112, 101, 110, 105, 110, 103, 32, 98, 101, 116]⟩ 0 = some [] := by kernel_rfl
theorem Ybaf.fFold1r (w : World) : (FmtDoors.printed ⟨#[102, 111, 108, 100, 32, 105, 110, 115, 116, 101, 97, 100, 32, 111, 102, 32, 116, 104, 101, 32, 114, 111, 117, 110, 100, 39, 115, 32, 102, 105, 114, 115, 116, 32, 111, 112, 101, 110, 105, 110, 103, 32, 98, 101, 116]⟩ 0).run Ybaf.prog w = .ok [] w := by kernel_rfl
theorem Ybaf.fFold2 : FmtStop.printed? ⟨#[102, 111, 108, 100, 32, 119, 104, 101, 110, 32, 97, 32, 99, 97, 108, 108, 32, 99, 111, 115, 116, 115, 32, 110, 111, 116, 104, 105, 110, 103]⟩ 0 = some [] := by kernel_rfl
theorem Ybaf.fFold2r (w : World) : (FmtDoors.printed ⟨#[102, 111, 108, 100, 32, 119, 104, 101, 110, 32, 97, 32, 99, 97, 108, 108, 32, 99, 111, 115, 116, 115, 32, 110, 111, 116, 104, 105, 110, 103]⟩ 0).run Ybaf.prog w = .ok [] w := by kernel_rfl
theorem Ybaf.fCap : FmtStop.printed? ⟨#[114, 97, 105, 115, 101, 32, 111, 118, 101, 114, 32, 116, 104, 101, 32, 99, 97, 112, 32, 111, 102, 32, 37, 100, 32, 114, 97, 105, 115, 101, 115, 32, 105, 110, 32, 114, 111, 117, 110, 100, 32, 37, 100]⟩ 2 = some [(0, 100, false), (1, 100, false)] := by kernel_rfl
theorem Ybaf.fCapr (w : World) : (FmtDoors.printed ⟨#[114, 97, 105, 115, 101, 32, 111, 118, 101, 114, 32, 116, 104, 101, 32, 99, 97, 112, 32, 111, 102, 32, 37, 100, 32, 114, 97, 105, 115, 101, 115, 32, 105, 110, 32, 114, 111, 117, 110, 100, 32, 37, 100]⟩ 2).run Ybaf.prog w = .ok [(0, 100, false), (1, 100, false)] w := by kernel_rfl
theorem Ybaf.fWrap : FmtStop.printed? ⟨#[37, 119, 32, 111, 102, 32, 37, 100]⟩ 2 = some [(0, 119, false), (1, 100, false)] := by kernel_rfl
theorem Ybaf.fWrapr (w : World) : (FmtDoors.printed ⟨#[37, 119, 32, 111, 102, 32, 37, 100]⟩ 2).run Ybaf.prog w = .ok [(0, 119, false), (1, 100, false)] w := by kernel_rfl
theorem Ybaf.fBet : FmtStop.printed? ⟨#[37, 115, 32, 98, 101, 116, 116, 105, 110, 103, 32, 105, 115, 32, 110, 111, 116, 32, 115, 117, 112, 112, 111, 114, 116, 101, 100]⟩ 1 = some [(0, 115, false)] := by kernel_rfl
theorem Ybaf.fBetr (w : World) : (FmtDoors.printed ⟨#[37, 115, 32, 98, 101, 116, 116, 105, 110, 103, 32, 105, 115, 32, 110, 111, 116, 32, 115, 117, 112, 112, 111, 114, 116, 101, 100]⟩ 1).run Ybaf.prog w = .ok [(0, 115, false)] w := by kernel_rfl
def Ybaf.shape3 : List UInt8 := [5, 3, 0, 0, 0, 0, 0, 0, 0, 105, 110, 116]
def Ybaf.shape58 : List UInt8 := [12, 13, 0, 0, 0, 0, 0, 0, 0, 112, 111, 107, 101, 114, 46, 66, 101, 116, 116, 105, 110, 103]
theorem Ybaf.act3_100 (name : String) (x : Value) (w : World) : (FmtCalls.act name false 100 false (.iface 3 x)).run Ybaf.prog w = .ok (.closed false) w := by kernel_rfl
theorem Ybaf.op3_100 (name : String) (x : Int) (w : World) : (FmtStop.operand name false 100 false (.iface 3 (.int .i64 x))).run Ybaf.prog w = .ok (Ybaf.shape3, Go.Extern.Stop.digits 8 (x % 2 ^ 64).toNat) w := by kernel_rfl
theorem Ybaf.act3_100w (name : String) (x : Value) (w : World) : (FmtCalls.act name true 100 false (.iface 3 x)).run Ybaf.prog w = .ok (.closed true) w := by kernel_rfl
theorem Ybaf.op3_100w (name : String) (x : Int) (w : World) : (FmtStop.operand name true 100 false (.iface 3 (.int .i64 x))).run Ybaf.prog w = .ok (Ybaf.shape3, Go.Extern.Stop.digits 8 (x % 2 ^ 64).toNat) w := by kernel_rfl
theorem Ybaf.act58_115 (name : String) (x : Value) (w : World) : (FmtCalls.act name false 115 false (.iface 58 x)).run Ybaf.prog w = .ok (.closed false) w := by kernel_rfl
theorem Ybaf.op58_115 (name : String) (x : ByteArray) (w : World) : (FmtStop.operand name false 115 false (.iface 58 (.string x))).run Ybaf.prog w = .ok (Ybaf.shape58, FmtStop.pack x.data.toList) w := by kernel_rfl
theorem Ybaf.act58_115w (name : String) (x : Value) (w : World) : (FmtCalls.act name true 115 false (.iface 58 x)).run Ybaf.prog w = .ok (.closed true) w := by kernel_rfl
theorem Ybaf.op58_115w (name : String) (x : ByteArray) (w : World) : (FmtStop.operand name true 115 false (.iface 58 (.string x))).run Ybaf.prog w = .ok (Ybaf.shape58, FmtStop.pack x.data.toList) w := by kernel_rfl
theorem Ybaf.act78_119w (name : String) (x : Value) (w : World) : (FmtCalls.act name true 119 false (.iface 78 x)).run Ybaf.prog w = .ok (.closed true) w := by kernel_rfl
theorem Ybaf.ptr78 (w : World) : (FmtStop.ptrTo "errors.errorString").run Ybaf.prog w = .ok 78 w := by kernel_rfl
theorem Ybaf.elem78 (w : World) : (elemOf 78).run Ybaf.prog w = .ok 80 w := by kernel_rfl
theorem Ybaf.isError78 (w : World) : (FmtDoors.textMethod 78 "Error").run Ybaf.prog w = .ok true w := by kernel_rfl
theorem Ybaf.str78 (w : World) : (typeStr 78).run Ybaf.prog w = .ok "*errors.errorString" w := by kernel_rfl
def Ybaf.plain78 : List UInt8 := 14 :: FmtStop.pack "*errors.errorString".toUTF8.data.toList
theorem Ybaf.opPlain78_119w (name : String) (a : Addr) (s : ByteArray) (w : World) (hc : w.cell? a = some (.string s)) :
    (FmtStop.operand name true 119 false (.iface 78 (.pointer (some a)))).run Ybaf.prog w = .ok (Ybaf.plain78, s.data.toList) w := by
  have h1 : (typeStr 78).run Ybaf.prog w = .ok "*errors.errorString" w := by kernel_rfl
  have d2 : Ybaf.t78.desc = .pointer 80 := rfl
  have d3 : Ybaf.t80.desc = .named "errors.errorString" 79 := rfl
  simp [FmtStop.operand, h1, d2, d3, run_load, hc, Ybaf.plain78]
theorem Ybaf.ptr110 (w : World) : (FmtStop.ptrTo "fmt.wrapError").run Ybaf.prog w = .ok 110 w := by kernel_rfl
theorem Ybaf.elem110 (w : World) : (elemOf 110).run Ybaf.prog w = .ok 184 w := by kernel_rfl
theorem Ybaf.isError110 (w : World) : (FmtDoors.textMethod 110 "Error").run Ybaf.prog w = .ok true w := by kernel_rfl

end Go.Proofs
