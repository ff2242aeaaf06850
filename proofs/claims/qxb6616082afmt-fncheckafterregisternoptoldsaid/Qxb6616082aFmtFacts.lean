/- THE CLOSED FACTS FOR THE WALKS OVER fmt's TWO STOPPED FRONTS at this dump, each by the kernel. -/
import Derived.Test.Qxb6616082aFmtProg
import Derived.Stop.CallBack
import Derived.Stop.IfaceNil
import GoSem.ClaimData
namespace Go.Proofs
open Go.Extern.Stop Go.Stop Go.Extern

@[go_sem] theorem Tryf.call38 (args : Array Value) (w : World) : (callFunc 38 args).run Tryf.prog w = (FmtCalls.errorf #[9, 69] #[25] args).run Tryf.prog w :=
  run_callFunc_next Tryf.func38 (by kernel_rfl) (by kernel_rfl) (by kernel_rfl) args w
@[go_sem] theorem Tryf.call40 (args : Array Value) (w : World) : (callFunc 40 args).run Tryf.prog w = (FmtCalls.sprintf #[9, 69] #[9] args).run Tryf.prog w :=
  run_callFunc_next Tryf.func40 (by kernel_rfl) (by kernel_rfl) (by kernel_rfl) args w
@[go_sem] theorem Tryf.guard (name : String) (w : World) : (FmtStop.guard name).run Tryf.prog w = .ok () w := by kernel_rfl
theorem Tryf.nextTurns : Extern.next FmtCalls.turnsRow = some (FmtCalls.begun #[] #[]) := by kernel_rfl
theorem Tryf.nextReturned : Extern.next FmtCalls.returnedRow = some (FmtCalls.returned #[] #[]) := by kernel_rfl

@[go_sem] theorem Tryf.fmt0 : FmtStop.printed? ⟨#[114, 101, 113, 117, 101, 115, 116, 32, 111, 102, 32, 37, 100, 32, 98, 121, 116, 101, 115, 44, 32, 97, 98, 111, 118, 101, 32, 77, 97, 120, 82, 101, 113, 117, 101, 115, 116, 66, 121, 116, 101, 115, 44, 32, 37, 100]⟩ 2 = some [(0, 100, false), (1, 100, false)] := by kernel_rfl
@[go_sem] theorem Tryf.fmt0r (w : World) : (FmtDoors.printed ⟨#[114, 101, 113, 117, 101, 115, 116, 32, 111, 102, 32, 37, 100, 32, 98, 121, 116, 101, 115, 44, 32, 97, 98, 111, 118, 101, 32, 77, 97, 120, 82, 101, 113, 117, 101, 115, 116, 66, 121, 116, 101, 115, 44, 32, 37, 100]⟩ 2).run Tryf.prog w = .ok [(0, 100, false), (1, 100, false)] w := by kernel_rfl
@[go_sem] theorem Tryf.pct0 : (#[114, 101, 113, 117, 101, 115, 116, 32, 111, 102, 32, 37, 100, 32, 98, 121, 116, 101, 115, 44, 32, 97, 98, 111, 118, 101, 32, 77, 97, 120, 82, 101, 113, 117, 101, 115, 116, 66, 121, 116, 101, 115, 44, 32, 37, 100] : Array UInt8).contains 37 = true := by kernel_rfl
@[go_sem] theorem Tryf.fmt1 : FmtStop.printed? ⟨#[117, 110, 107, 110, 111, 119, 110, 32, 112, 114, 111, 99, 101, 100, 117, 114, 101, 32, 37, 113]⟩ 1 = some [(0, 113, false)] := by kernel_rfl
@[go_sem] theorem Tryf.fmt1r (w : World) : (FmtDoors.printed ⟨#[117, 110, 107, 110, 111, 119, 110, 32, 112, 114, 111, 99, 101, 100, 117, 114, 101, 32, 37, 113]⟩ 1).run Tryf.prog w = .ok [(0, 113, false)] w := by kernel_rfl
@[go_sem] theorem Tryf.pct1 : (#[117, 110, 107, 110, 111, 119, 110, 32, 112, 114, 111, 99, 101, 100, 117, 114, 101, 32, 37, 113] : Array UInt8).contains 37 = true := by kernel_rfl
@[go_sem] theorem Tryf.fmt2 : FmtStop.printed? ⟨#[37, 115, 32, 116, 97, 107, 101, 115, 32, 37, 115, 44, 32, 103, 111, 116, 32, 37, 100]⟩ 3 = some [(0, 115, false), (1, 115, false), (2, 100, false)] := by kernel_rfl
@[go_sem] theorem Tryf.fmt2r (w : World) : (FmtDoors.printed ⟨#[37, 115, 32, 116, 97, 107, 101, 115, 32, 37, 115, 44, 32, 103, 111, 116, 32, 37, 100]⟩ 3).run Tryf.prog w = .ok [(0, 115, false), (1, 115, false), (2, 100, false)] w := by kernel_rfl
@[go_sem] theorem Tryf.pct2 : (#[37, 115, 32, 116, 97, 107, 101, 115, 32, 37, 115, 44, 32, 103, 111, 116, 32, 37, 100] : Array UInt8).contains 37 = true := by kernel_rfl
@[go_sem] theorem Tryf.fmt3 : FmtStop.printed? ⟨#[102, 111, 114, 101, 111, 114, 100, 101, 114, 58, 32, 112, 114, 111, 99, 101, 100, 117, 114, 101, 32, 110, 97, 109, 101, 32, 37, 113, 32, 105, 115, 32, 101, 109, 112, 116, 121, 32, 111, 114, 32, 104, 111, 108, 100, 115, 32, 97, 32, 115, 112, 97, 99, 101, 32, 111, 114, 32, 110, 101, 119, 108, 105, 110, 101]⟩ 1 = some [(0, 113, false)] := by kernel_rfl
@[go_sem] theorem Tryf.fmt3r (w : World) : (FmtDoors.printed ⟨#[102, 111, 114, 101, 111, 114, 100, 101, 114, 58, 32, 112, 114, 111, 99, 101, 100, 117, 114, 101, 32, 110, 97, 109, 101, 32, 37, 113, 32, 105, 115, 32, 101, 109, 112, 116, 121, 32, 111, 114, 32, 104, 111, 108, 100, 115, 32, 97, 32, 115, 112, 97, 99, 101, 32, 111, 114, 32, 110, 101, 119, 108, 105, 110, 101]⟩ 1).run Tryf.prog w = .ok [(0, 113, false)] w := by kernel_rfl
@[go_sem] theorem Tryf.pct3 : (#[102, 111, 114, 101, 111, 114, 100, 101, 114, 58, 32, 112, 114, 111, 99, 101, 100, 117, 114, 101, 32, 110, 97, 109, 101, 32, 37, 113, 32, 105, 115, 32, 101, 109, 112, 116, 121, 32, 111, 114, 32, 104, 111, 108, 100, 115, 32, 97, 32, 115, 112, 97, 99, 101, 32, 111, 114, 32, 110, 101, 119, 108, 105, 110, 101] : Array UInt8).contains 37 = true := by kernel_rfl
@[go_sem] theorem Tryf.fmt4 : FmtStop.printed? ⟨#[102, 111, 114, 101, 111, 114, 100, 101, 114, 58, 32, 112, 114, 111, 99, 101, 100, 117, 114, 101, 32, 37, 115, 32, 116, 97, 107, 101, 115, 32, 102, 114, 111, 109, 32, 37, 100, 32, 116, 111, 32, 37, 100, 32, 97, 114, 103, 117, 109, 101, 110, 116, 115]⟩ 3 = some [(0, 115, false), (1, 100, false), (2, 100, false)] := by kernel_rfl
@[go_sem] theorem Tryf.fmt4r (w : World) : (FmtDoors.printed ⟨#[102, 111, 114, 101, 111, 114, 100, 101, 114, 58, 32, 112, 114, 111, 99, 101, 100, 117, 114, 101, 32, 37, 115, 32, 116, 97, 107, 101, 115, 32, 102, 114, 111, 109, 32, 37, 100, 32, 116, 111, 32, 37, 100, 32, 97, 114, 103, 117, 109, 101, 110, 116, 115]⟩ 3).run Tryf.prog w = .ok [(0, 115, false), (1, 100, false), (2, 100, false)] w := by kernel_rfl
@[go_sem] theorem Tryf.pct4 : (#[102, 111, 114, 101, 111, 114, 100, 101, 114, 58, 32, 112, 114, 111, 99, 101, 100, 117, 114, 101, 32, 37, 115, 32, 116, 97, 107, 101, 115, 32, 102, 114, 111, 109, 32, 37, 100, 32, 116, 111, 32, 37, 100, 32, 97, 114, 103, 117, 109, 101, 110, 116, 115] : Array UInt8).contains 37 = true := by kernel_rfl
@[go_sem] theorem Tryf.fmt5 : FmtStop.printed? ⟨#[97, 116, 32, 108, 101, 97, 115, 116, 32, 37, 100, 32, 97, 114, 103, 117, 109, 101, 110, 116, 115]⟩ 1 = some [(0, 100, false)] := by kernel_rfl
@[go_sem] theorem Tryf.fmt5r (w : World) : (FmtDoors.printed ⟨#[97, 116, 32, 108, 101, 97, 115, 116, 32, 37, 100, 32, 97, 114, 103, 117, 109, 101, 110, 116, 115]⟩ 1).run Tryf.prog w = .ok [(0, 100, false)] w := by kernel_rfl
@[go_sem] theorem Tryf.pct5 : (#[97, 116, 32, 108, 101, 97, 115, 116, 32, 37, 100, 32, 97, 114, 103, 117, 109, 101, 110, 116, 115] : Array UInt8).contains 37 = true := by kernel_rfl
@[go_sem] theorem Tryf.fmt6 : FmtStop.printed? ⟨#[37, 100, 32, 97, 114, 103, 117, 109, 101, 110, 116, 115]⟩ 1 = some [(0, 100, false)] := by kernel_rfl
@[go_sem] theorem Tryf.fmt6r (w : World) : (FmtDoors.printed ⟨#[37, 100, 32, 97, 114, 103, 117, 109, 101, 110, 116, 115]⟩ 1).run Tryf.prog w = .ok [(0, 100, false)] w := by kernel_rfl
@[go_sem] theorem Tryf.pct6 : (#[37, 100, 32, 97, 114, 103, 117, 109, 101, 110, 116, 115] : Array UInt8).contains 37 = true := by kernel_rfl
@[go_sem] theorem Tryf.fmt7 : FmtStop.printed? ⟨#[37, 100, 32, 116, 111, 32, 37, 100, 32, 97, 114, 103, 117, 109, 101, 110, 116, 115]⟩ 2 = some [(0, 100, false), (1, 100, false)] := by kernel_rfl
@[go_sem] theorem Tryf.fmt7r (w : World) : (FmtDoors.printed ⟨#[37, 100, 32, 116, 111, 32, 37, 100, 32, 97, 114, 103, 117, 109, 101, 110, 116, 115]⟩ 2).run Tryf.prog w = .ok [(0, 100, false), (1, 100, false)] w := by kernel_rfl
@[go_sem] theorem Tryf.pct7 : (#[37, 100, 32, 116, 111, 32, 37, 100, 32, 97, 114, 103, 117, 109, 101, 110, 116, 115] : Array UInt8).contains 37 = true := by kernel_rfl

def Tryf.shape9 : List UInt8 := [12, 6, 0, 0, 0, 0, 0, 0, 0, 115, 116, 114, 105, 110, 103]
def Tryf.shape3 : List UInt8 := [5, 3, 0, 0, 0, 0, 0, 0, 0, 105, 110, 116]
@[go_sem] theorem Tryf.op9_115 (name : String) (x : ByteArray) (w : World) : (FmtStop.operand name false 115 false (.iface 9 (.string x))).run Tryf.prog w = .ok (Tryf.shape9, FmtStop.pack x.data.toList) w := by kernel_rfl
@[go_sem] theorem Tryf.act9_115 (name : String) (x : Value) (w : World) : (FmtCalls.act name false 115 false (.iface 9 x)).run Tryf.prog w = .ok (.closed false) w := by kernel_rfl
@[go_sem] theorem Tryf.op9_113 (name : String) (x : ByteArray) (w : World) : (FmtStop.operand name false 113 false (.iface 9 (.string x))).run Tryf.prog w = .ok (Tryf.shape9, FmtStop.pack x.data.toList) w := by kernel_rfl
@[go_sem] theorem Tryf.act9_113 (name : String) (x : Value) (w : World) : (FmtCalls.act name false 113 false (.iface 9 x)).run Tryf.prog w = .ok (.closed false) w := by kernel_rfl
@[go_sem] theorem Tryf.op3_100 (name : String) (x : Int) (w : World) : (FmtStop.operand name false 100 false (.iface 3 (.int .i64 x))).run Tryf.prog w = .ok (Tryf.shape3, Go.Extern.Stop.digits 8 (x % 2 ^ 64).toNat) w := by kernel_rfl
@[go_sem] theorem Tryf.act3_100 (name : String) (x : Value) (w : World) : (FmtCalls.act name false 100 false (.iface 3 x)).run Tryf.prog w = .ok (.closed false) w := by kernel_rfl
@[go_sem] theorem Tryf.op9_115w (name : String) (x : ByteArray) (w : World) : (FmtStop.operand name true 115 false (.iface 9 (.string x))).run Tryf.prog w = .ok (Tryf.shape9, FmtStop.pack x.data.toList) w := by kernel_rfl
@[go_sem] theorem Tryf.act9_115w (name : String) (x : Value) (w : World) : (FmtCalls.act name true 115 false (.iface 9 x)).run Tryf.prog w = .ok (.closed true) w := by kernel_rfl
@[go_sem] theorem Tryf.op9_113w (name : String) (x : ByteArray) (w : World) : (FmtStop.operand name true 113 false (.iface 9 (.string x))).run Tryf.prog w = .ok (Tryf.shape9, FmtStop.pack x.data.toList) w := by kernel_rfl
@[go_sem] theorem Tryf.act9_113w (name : String) (x : Value) (w : World) : (FmtCalls.act name true 113 false (.iface 9 x)).run Tryf.prog w = .ok (.closed true) w := by kernel_rfl
@[go_sem] theorem Tryf.op3_100w (name : String) (x : Int) (w : World) : (FmtStop.operand name true 100 false (.iface 3 (.int .i64 x))).run Tryf.prog w = .ok (Tryf.shape3, Go.Extern.Stop.digits 8 (x % 2 ^ 64).toNat) w := by kernel_rfl
@[go_sem] theorem Tryf.act3_100w (name : String) (x : Value) (w : World) : (FmtCalls.act name true 100 false (.iface 3 x)).run Tryf.prog w = .ok (.closed true) w := by kernel_rfl
@[go_sem] theorem Tryf.ptr80 (w : World) : (FmtStop.ptrTo "errors.errorString").run Tryf.prog w = .ok 80 w := by kernel_rfl
@[go_sem] theorem Tryf.elem80 (w : World) : (elemOf 80).run Tryf.prog w = .ok 82 w := by kernel_rfl
end Go.Proofs
