/- 6304A: closed facts for the walk over fmt's stopped front (after the worked texts' make). -/
import Derived.Test.YbulkdznmFmtProg
import Derived.Stop.CallBack
import Derived.Stop.IfaceNil
import GoSem.ClaimData
namespace Go.Proofs
open Go.Extern.Stop Go.Stop Go.Extern

@[go_sem] theorem Ybaf.call21 (args : Array Value) (w : World) : (callFunc 21 args).run Ybaf.prog w = (FmtCalls.errorf #[9, 73] #[34] args).run Ybaf.prog w :=
  run_callFunc_next Ybaf.func21 (by kernel_rfl) (by kernel_rfl) (by kernel_rfl) args w
@[go_sem] theorem Ybaf.guard (name : String) (w : World) : (FmtStop.guard name).run Ybaf.prog w = .ok () w := by kernel_rfl
theorem Ybaf.nextTurns : Extern.next FmtCalls.turnsRow = some (FmtCalls.begun #[] #[]) := by kernel_rfl
theorem Ybaf.nextReturned : Extern.next FmtCalls.returnedRow = some (FmtCalls.returned #[] #[]) := by kernel_rfl
@[go_sem] theorem Ybaf.fmt0 : FmtStop.printed? ⟨#[115, 99, 111, 112, 101, 32, 37, 113, 32, 105, 115, 32, 109, 105, 115, 110, 97, 109, 101, 100, 32, 111, 114, 32, 111, 117, 116, 32, 111, 102, 32, 111, 114, 100, 101, 114]⟩ 1 = some [(0, 113, false)] := by kernel_rfl
@[go_sem] theorem Ybaf.fmt0r (w : World) : (FmtDoors.printed ⟨#[115, 99, 111, 112, 101, 32, 37, 113, 32, 105, 115, 32, 109, 105, 115, 110, 97, 109, 101, 100, 32, 111, 114, 32, 111, 117, 116, 32, 111, 102, 32, 111, 114, 100, 101, 114]⟩ 1).run Ybaf.prog w = .ok [(0, 113, false)] w := by kernel_rfl
def Ybaf.shape9 : List UInt8 := [12, 6, 0, 0, 0, 0, 0, 0, 0, 115, 116, 114, 105, 110, 103]
@[go_sem] theorem Ybaf.act9_113w (name : String) (x : Value) (w : World) : (FmtCalls.act name true 113 false (.iface 9 x)).run Ybaf.prog w = .ok (.closed true) w := by kernel_rfl
@[go_sem] theorem Ybaf.op9_113w (name : String) (x : ByteArray) (w : World) : (FmtStop.operand name true 113 false (.iface 9 (.string x))).run Ybaf.prog w = .ok (Ybaf.shape9, FmtStop.pack x.data.toList) w := by kernel_rfl
@[go_sem] theorem Ybaf.ptr75 (w : World) : (FmtStop.ptrTo "errors.errorString").run Ybaf.prog w = .ok 75 w := by kernel_rfl
@[go_sem] theorem Ybaf.elem75 (w : World) : (elemOf 75).run Ybaf.prog w = .ok 77 w := by kernel_rfl
@[go_sem] theorem Ybaf.fmt1 : FmtStop.printed? ⟨#[115, 99, 111, 112, 101, 32, 37, 115, 32, 104, 111, 108, 100, 115, 32, 37, 100, 32, 107, 101, 121, 115]⟩ 2 = some [(0, 115, false), (1, 100, false)] := by kernel_rfl
@[go_sem] theorem Ybaf.fmt1r (w : World) : (FmtDoors.printed ⟨#[115, 99, 111, 112, 101, 32, 37, 115, 32, 104, 111, 108, 100, 115, 32, 37, 100, 32, 107, 101, 121, 115]⟩ 2).run Ybaf.prog w = .ok [(0, 115, false), (1, 100, false)] w := by kernel_rfl
@[go_sem] theorem Ybaf.act9_115w (name : String) (x : Value) (w : World) : (FmtCalls.act name true 115 false (.iface 9 x)).run Ybaf.prog w = .ok (.closed true) w := by kernel_rfl
@[go_sem] theorem Ybaf.op9_115w (name : String) (x : ByteArray) (w : World) : (FmtStop.operand name true 115 false (.iface 9 (.string x))).run Ybaf.prog w = .ok (Ybaf.shape9, FmtStop.pack x.data.toList) w := by kernel_rfl
def Ybaf.shape52 : List UInt8 := [8, 6, 0, 0, 0, 0, 0, 0, 0, 117, 105, 110, 116, 51, 50]
@[go_sem] theorem Ybaf.act52_100w (name : String) (x : Value) (w : World) : (FmtCalls.act name true 100 false (.iface 52 x)).run Ybaf.prog w = .ok (.closed true) w := by kernel_rfl
@[go_sem] theorem Ybaf.op52_100w (name : String) (x : Int) (w : World) : (FmtStop.operand name true 100 false (.iface 52 (.int .u32 x))).run Ybaf.prog w = .ok (Ybaf.shape52, Go.Extern.Stop.digits 8 (x % 2 ^ 64).toNat) w := by kernel_rfl
end Go.Proofs
