/-
  THE CLOSED FACTS FOR A WALK OVER fmt's STOPPED FRONTS, at this dump's numbers, after the guide's LevelsFmt.lean, ColorFmt.lean.
-/
import Derived.Test.YbulkexmwwFmtRows
import Derived.Stop.CallBack
import Derived.Stop.IfaceNil
import Derived.Stop.FmtTextLaws
import GoSem.ClaimData
namespace Go.Proofs.YbulkexmwwFmt
open Go.Extern.Stop Go.Stop Go.Extern
theorem Ybaf.call18 (args : Array Value) (w : World) : (callFunc 18 args).run Ybaf.prog w = (FmtCalls.errorf #[9, 48] #[30] args).run Ybaf.prog w :=
  run_callFunc_next Ybaf.func18 (by kernel_rfl) (by kernel_rfl) (by kernel_rfl) args w
theorem Ybaf.call21 (args : Array Value) (w : World) : (callFunc 21 args).run Ybaf.prog w = (FmtCalls.sprintf #[9, 48] #[9] args).run Ybaf.prog w :=
  run_callFunc_next Ybaf.func21 (by kernel_rfl) (by kernel_rfl) (by kernel_rfl) args w
theorem Ybaf.guard (name : String) (w : World) : (FmtStop.guard name).run Ybaf.prog w = .ok () w := by kernel_rfl
theorem Ybaf.nextTurns : Extern.next FmtCalls.turnsRow = some (FmtCalls.begun #[] #[]) := by kernel_rfl
theorem Ybaf.nextReturned : Extern.next FmtCalls.returnedRow = some (FmtCalls.returned #[] #[]) := by kernel_rfl
theorem Ybaf.fmt0 : FmtStop.printed? ⟨#[37, 115, 32, 119, 104, 101, 114, 101, 32, 37, 115, 32, 98, 101, 108, 111, 110, 103, 115]⟩ 2 = some [(0, 115, false), (1, 115, false)] := by kernel_rfl
theorem Ybaf.fmt0r (w : World) : (FmtDoors.printed ⟨#[37, 115, 32, 119, 104, 101, 114, 101, 32, 37, 115, 32, 98, 101, 108, 111, 110, 103, 115]⟩ 2).run Ybaf.prog w = .ok [(0, 115, false), (1, 115, false)] w := by kernel_rfl
theorem Ybaf.fmt1 : FmtStop.printed? ⟨#[37, 115, 32, 119, 104, 101, 114, 101, 32, 37, 115, 32, 98, 101, 108, 111, 110, 103, 115]⟩ 0 = some [] := by kernel_rfl
theorem Ybaf.fmt1r (w : World) : (FmtDoors.printed ⟨#[37, 115, 32, 119, 104, 101, 114, 101, 32, 37, 115, 32, 98, 101, 108, 111, 110, 103, 115]⟩ 0).run Ybaf.prog w = .ok [] w := by kernel_rfl
theorem Ybaf.fmt2 : FmtStop.printed? ⟨#[97, 110, 32, 105, 51, 50, 32, 111, 102, 32, 37, 100]⟩ 1 = some [(0, 100, false)] := by kernel_rfl
theorem Ybaf.fmt2r (w : World) : (FmtDoors.printed ⟨#[97, 110, 32, 105, 51, 50, 32, 111, 102, 32, 37, 100]⟩ 1).run Ybaf.prog w = .ok [(0, 100, false)] w := by kernel_rfl
theorem Ybaf.fmt3 : FmtStop.printed? ⟨#[97, 110, 32, 105, 51, 50, 32, 111, 102, 32, 37, 100]⟩ 0 = some [] := by kernel_rfl
theorem Ybaf.fmt3r (w : World) : (FmtDoors.printed ⟨#[97, 110, 32, 105, 51, 50, 32, 111, 102, 32, 37, 100]⟩ 0).run Ybaf.prog w = .ok [] w := by kernel_rfl
theorem Ybaf.fmt4 : FmtStop.printed? ⟨#[116, 121, 112, 101, 32, 37, 100]⟩ 1 = some [(0, 100, false)] := by kernel_rfl
theorem Ybaf.fmt4r (w : World) : (FmtDoors.printed ⟨#[116, 121, 112, 101, 32, 37, 100]⟩ 1).run Ybaf.prog w = .ok [(0, 100, false)] w := by kernel_rfl
theorem Ybaf.fmt5 : FmtStop.printed? ⟨#[116, 121, 112, 101, 32, 37, 100]⟩ 0 = some [] := by kernel_rfl
theorem Ybaf.fmt5r (w : World) : (FmtDoors.printed ⟨#[116, 121, 112, 101, 32, 37, 100]⟩ 0).run Ybaf.prog w = .ok [] w := by kernel_rfl
def Ybaf.shape9 : List UInt8 := [12, 6, 0, 0, 0, 0, 0, 0, 0, 115, 116, 114, 105, 110, 103]
theorem Ybaf.act9_115w (name : String) (x : Value) (w : World) : (FmtCalls.act name true 115 false (.iface 9 x)).run Ybaf.prog w = .ok (.closed true) w := by kernel_rfl
theorem Ybaf.op9_115w (name : String) (x : ByteArray) (w : World) : (FmtStop.operand name true 115 false (.iface 9 (.string x))).run Ybaf.prog w = .ok (Ybaf.shape9, FmtStop.pack x.data.toList) w := by kernel_rfl
theorem Ybaf.act9_118w (name : String) (x : Value) (w : World) : (FmtCalls.act name true 118 false (.iface 9 x)).run Ybaf.prog w = .ok (.closed true) w := by kernel_rfl
theorem Ybaf.op9_118w (name : String) (x : ByteArray) (w : World) : (FmtStop.operand name true 118 false (.iface 9 (.string x))).run Ybaf.prog w = .ok (Ybaf.shape9, FmtStop.pack x.data.toList) w := by kernel_rfl
theorem Ybaf.strict9 (name : String) (x : ByteArray) (w : World) : (FmtStop.strict name (.iface 9 (.string x))).run Ybaf.prog w = .ok (Ybaf.shape9, FmtStop.pack x.data.toList) w := by kernel_rfl
def Ybaf.shape2 : List UInt8 := [5, 5, 0, 0, 0, 0, 0, 0, 0, 105, 110, 116, 54, 52]
theorem Ybaf.act2_100w (name : String) (x : Value) (w : World) : (FmtCalls.act name true 100 false (.iface 2 x)).run Ybaf.prog w = .ok (.closed true) w := by kernel_rfl
theorem Ybaf.op2_100w (name : String) (x : Int) (w : World) : (FmtStop.operand name true 100 false (.iface 2 (.int .i64 x))).run Ybaf.prog w = .ok (Ybaf.shape2, Go.Extern.Stop.digits 8 (x % 2 ^ 64).toNat) w := by kernel_rfl
theorem Ybaf.act2_118w (name : String) (x : Value) (w : World) : (FmtCalls.act name true 118 false (.iface 2 x)).run Ybaf.prog w = .ok (.closed true) w := by kernel_rfl
theorem Ybaf.op2_118w (name : String) (x : Int) (w : World) : (FmtStop.operand name true 118 false (.iface 2 (.int .i64 x))).run Ybaf.prog w = .ok (Ybaf.shape2, Go.Extern.Stop.digits 8 (x % 2 ^ 64).toNat) w := by kernel_rfl
theorem Ybaf.strict2 (name : String) (x : Int) (w : World) : (FmtStop.strict name (.iface 2 (.int .i64 x))).run Ybaf.prog w = .ok (Ybaf.shape2, Go.Extern.Stop.digits 8 (x % 2 ^ 64).toNat) w := by kernel_rfl
def Ybaf.shape5 : List UInt8 := [6, 5, 0, 0, 0, 0, 0, 0, 0, 117, 105, 110, 116, 56]
theorem Ybaf.act5_100 (name : String) (x : Value) (w : World) : (FmtCalls.act name false 100 false (.iface 5 x)).run Ybaf.prog w = .ok (.closed false) w := by kernel_rfl
theorem Ybaf.op5_100 (name : String) (x : Int) (w : World) : (FmtStop.operand name false 100 false (.iface 5 (.int .u8 x))).run Ybaf.prog w = .ok (Ybaf.shape5, Go.Extern.Stop.digits 8 (x % 2 ^ 64).toNat) w := by kernel_rfl
theorem Ybaf.act5_118 (name : String) (x : Value) (w : World) : (FmtCalls.act name false 118 false (.iface 5 x)).run Ybaf.prog w = .ok (.closed false) w := by kernel_rfl
theorem Ybaf.op5_118 (name : String) (x : Int) (w : World) : (FmtStop.operand name false 118 false (.iface 5 (.int .u8 x))).run Ybaf.prog w = .ok (Ybaf.shape5, Go.Extern.Stop.digits 8 (x % 2 ^ 64).toNat) w := by kernel_rfl
theorem Ybaf.strict5 (name : String) (x : Int) (w : World) : (FmtStop.strict name (.iface 5 (.int .u8 x))).run Ybaf.prog w = .ok (Ybaf.shape5, Go.Extern.Stop.digits 8 (x % 2 ^ 64).toNat) w := by kernel_rfl
theorem Ybaf.str9 (w : World) : (typeStr 9).run Ybaf.prog w = .ok "string" w := by kernel_rfl
theorem Ybaf.str2 (w : World) : (typeStr 2).run Ybaf.prog w = .ok "int64" w := by kernel_rfl
theorem Ybaf.str5 (w : World) : (typeStr 5).run Ybaf.prog w = .ok "uint8" w := by kernel_rfl
theorem Ybaf.ptr58 (w : World) : (FmtStop.ptrTo "errors.errorString").run Ybaf.prog w = .ok 58 w := by kernel_rfl
theorem Ybaf.elem58 (w : World) : (elemOf 58).run Ybaf.prog w = .ok 60 w := by kernel_rfl
theorem Ybaf.isError58 (w : World) : (FmtDoors.textMethod 58 "Error").run Ybaf.prog w = .ok true w := by kernel_rfl
end Go.Proofs.YbulkexmwwFmt
