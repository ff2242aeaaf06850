/- THE CLOSED FACTS FOR THE WALKS OVER fmt's TWO STOPPED FRONTS at this dump, each by the kernel. -/
import Derived.Test.Qxb6616097aFmtProg
import Derived.Stop.CallBack
import Derived.Stop.IfaceNil
import GoSem.ClaimData
namespace Go.Proofs
open Go.Extern.Stop Go.Stop Go.Extern

@[go_sem] theorem Tryf.call68 (args : Array Value) (w : World) : (callFunc 68 args).run Tryf.prog w = ((FmtStop.errorf #[9, 88] #[32] args).run Tryf.prog w).andThen fun v w' => .ok (.value v) w' :=
  run_callFunc_extern Tryf.func68 (by kernel_rfl) (by kernel_rfl) (by kernel_rfl) (by kernel_rfl) args w
@[go_sem] theorem Tryf.call58 (args : Array Value) (w : World) : (callFunc 58 args).run Tryf.prog w = (FmtCalls.sprintf #[9, 88] #[9] args).run Tryf.prog w :=
  run_callFunc_next Tryf.func58 (by kernel_rfl) (by kernel_rfl) (by kernel_rfl) args w
@[go_sem] theorem Tryf.guard (name : String) (w : World) : (FmtStop.guard name).run Tryf.prog w = .ok () w := by kernel_rfl
theorem Tryf.nextTurns : Extern.next FmtCalls.turnsRow = some (FmtCalls.begun #[] #[]) := by kernel_rfl
theorem Tryf.nextReturned : Extern.next FmtCalls.returnedRow = some (FmtCalls.returned #[] #[]) := by kernel_rfl

@[go_sem] theorem Tryf.fmt0 : FmtStop.printed? ⟨#[101, 109, 112, 116, 121, 32, 118, 101, 114, 98]⟩ 0 = some [] := by kernel_rfl
@[go_sem] theorem Tryf.fmt0r (w : World) : (FmtDoors.printed ⟨#[101, 109, 112, 116, 121, 32, 118, 101, 114, 98]⟩ 0).run Tryf.prog w = .ok [] w := by kernel_rfl
@[go_sem] theorem Tryf.fmt1 : FmtStop.printed? ⟨#[117, 110, 101, 120, 112, 101, 99, 116, 101, 100, 32, 37, 113]⟩ 1 = some [(0, 113, false)] := by kernel_rfl
@[go_sem] theorem Tryf.fmt1r (w : World) : (FmtDoors.printed ⟨#[117, 110, 101, 120, 112, 101, 99, 116, 101, 100, 32, 37, 113]⟩ 1).run Tryf.prog w = .ok [(0, 113, false)] w := by kernel_rfl
@[go_sem] theorem Tryf.fmt2 : FmtStop.printed? ⟨#[118, 97, 114, 105, 97, 98, 108, 101, 32, 105, 110, 115, 105, 100, 101, 32, 97, 32, 118, 97, 114, 105, 97, 98, 108, 101]⟩ 0 = some [] := by kernel_rfl
@[go_sem] theorem Tryf.fmt2r (w : World) : (FmtDoors.printed ⟨#[118, 97, 114, 105, 97, 98, 108, 101, 32, 105, 110, 115, 105, 100, 101, 32, 97, 32, 118, 97, 114, 105, 97, 98, 108, 101]⟩ 0).run Tryf.prog w = .ok [] w := by kernel_rfl
@[go_sem] theorem Tryf.fmt3 : FmtStop.printed? ⟨#[101, 109, 112, 116, 121, 32, 115, 101, 103, 109, 101, 110, 116]⟩ 0 = some [] := by kernel_rfl
@[go_sem] theorem Tryf.fmt3r (w : World) : (FmtDoors.printed ⟨#[101, 109, 112, 116, 121, 32, 115, 101, 103, 109, 101, 110, 116]⟩ 0).run Tryf.prog w = .ok [] w := by kernel_rfl
@[go_sem] theorem Tryf.fmt4 : FmtStop.printed? ⟨#[118, 97, 114, 105, 97, 98, 108, 101, 32, 37, 115, 32, 105, 115, 32, 110, 111, 116, 32, 99, 108, 111, 115, 101, 100, 32, 98, 121, 32, 34, 125, 34]⟩ 1 = some [(0, 115, false)] := by kernel_rfl
@[go_sem] theorem Tryf.fmt4r (w : World) : (FmtDoors.printed ⟨#[118, 97, 114, 105, 97, 98, 108, 101, 32, 37, 115, 32, 105, 115, 32, 110, 111, 116, 32, 99, 108, 111, 115, 101, 100, 32, 98, 121, 32, 34, 125, 34]⟩ 1).run Tryf.prog w = .ok [(0, 115, false)] w := by kernel_rfl
@[go_sem] theorem Tryf.fmt5 : FmtStop.printed? ⟨#[101, 120, 112, 101, 99, 116, 101, 100, 32, 97, 32, 102, 105, 101, 108, 100, 32, 110, 97, 109, 101]⟩ 0 = some [] := by kernel_rfl
@[go_sem] theorem Tryf.fmt5r (w : World) : (FmtDoors.printed ⟨#[101, 120, 112, 101, 99, 116, 101, 100, 32, 97, 32, 102, 105, 101, 108, 100, 32, 110, 97, 109, 101]⟩ 0).run Tryf.prog w = .ok [] w := by kernel_rfl
@[go_sem] theorem Tryf.fmt6 : FmtStop.printed? ⟨#[97, 116, 32, 111, 102, 102, 115, 101, 116, 32, 37, 100, 58, 32, 37, 115]⟩ 2 = some [(0, 100, false), (1, 115, false)] := by kernel_rfl
@[go_sem] theorem Tryf.fmt6r (w : World) : (FmtDoors.printed ⟨#[97, 116, 32, 111, 102, 102, 115, 101, 116, 32, 37, 100, 58, 32, 37, 115]⟩ 2).run Tryf.prog w = .ok [(0, 100, false), (1, 115, false)] w := by kernel_rfl
@[go_sem] theorem Tryf.fmt7 : FmtStop.printed? ⟨#[102, 105, 101, 108, 100, 32, 37, 115, 32, 98, 111, 117, 110, 100, 32, 116, 119, 105, 99, 101]⟩ 1 = some [(0, 115, false)] := by kernel_rfl
@[go_sem] theorem Tryf.fmt7r (w : World) : (FmtDoors.printed ⟨#[102, 105, 101, 108, 100, 32, 37, 115, 32, 98, 111, 117, 110, 100, 32, 116, 119, 105, 99, 101]⟩ 1).run Tryf.prog w = .ok [(0, 115, false)] w := by kernel_rfl

def Tryf.shape9 : List UInt8 := [12, 6, 0, 0, 0, 0, 0, 0, 0, 115, 116, 114, 105, 110, 103]
def Tryf.shape3 : List UInt8 := [5, 3, 0, 0, 0, 0, 0, 0, 0, 105, 110, 116]
def Tryf.shape5 : List UInt8 := [6, 5, 0, 0, 0, 0, 0, 0, 0, 117, 105, 110, 116, 56]
@[go_sem] theorem Tryf.op9_115 (name : String) (x : ByteArray) (w : World) : (FmtStop.operand name false 115 false (.iface 9 (.string x))).run Tryf.prog w = .ok (Tryf.shape9, FmtStop.pack x.data.toList) w := by kernel_rfl
@[go_sem] theorem Tryf.op3_100 (name : String) (x : Int) (w : World) : (FmtStop.operand name false 100 false (.iface 3 (.int .i64 x))).run Tryf.prog w = .ok (Tryf.shape3, Go.Extern.Stop.digits 8 (x % 2 ^ 64).toNat) w := by kernel_rfl
@[go_sem] theorem Tryf.op9_115w (name : String) (x : ByteArray) (w : World) : (FmtStop.operand name true 115 false (.iface 9 (.string x))).run Tryf.prog w = .ok (Tryf.shape9, FmtStop.pack x.data.toList) w := by kernel_rfl
@[go_sem] theorem Tryf.op3_100w (name : String) (x : Int) (w : World) : (FmtStop.operand name true 100 false (.iface 3 (.int .i64 x))).run Tryf.prog w = .ok (Tryf.shape3, Go.Extern.Stop.digits 8 (x % 2 ^ 64).toNat) w := by kernel_rfl
@[go_sem] theorem Tryf.op5_113 (name : String) (x : Int) (w : World) : (FmtStop.operand name false 113 false (.iface 5 (.int .u8 x))).run Tryf.prog w = .ok (Tryf.shape5, Go.Extern.Stop.digits 8 (x % 2 ^ 64).toNat) w := by kernel_rfl
@[go_sem] theorem Tryf.act9_115 (name : String) (x : Value) (w : World) : (FmtCalls.act name false 115 false (.iface 9 x)).run Tryf.prog w = .ok (.closed false) w := by kernel_rfl
@[go_sem] theorem Tryf.act5_113 (name : String) (x : Value) (w : World) : (FmtCalls.act name false 113 false (.iface 5 x)).run Tryf.prog w = .ok (.closed false) w := by kernel_rfl
@[go_sem] theorem Tryf.ptr84 (w : World) : (FmtStop.ptrTo "errors.errorString").run Tryf.prog w = .ok 84 w := by kernel_rfl
@[go_sem] theorem Tryf.elem84 (w : World) : (elemOf 84).run Tryf.prog w = .ok 86 w := by kernel_rfl
@[go_sem] theorem Tryf.isError84' (w : World) : (FmtDoors.textMethod 84 "Error").run Tryf.prog w = .ok true w := by kernel_rfl
end Go.Proofs
