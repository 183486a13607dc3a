/-
  SEAT b6002352aF: THE CLOSED FACTS FOR THE WALK OVER fmt's STOPPED FRONT (after the guide's LevelsFmt, HexbadFmt): each by the kernel's own reckoning at this dump. Handed to the walk as hypotheses.
-/
import Derived.Test.Qxb6002352aFmtRows
import Derived.Stop.CallBack
import Derived.Stop.IfaceNil
import GoSem.ClaimData
namespace Go.Proofs.Qxb6002352aFmt
open Go.Extern.Stop Go.Stop Go.Extern

theorem call8 (args : Array Value) (w : World) : (callFunc 8 args).run Tryf.prog w = (FmtCalls.errorf #[9, 29] #[25] args).run Tryf.prog w :=
  run_callFunc_next Tryf.func8 (by kernel_rfl) (by kernel_rfl) (by kernel_rfl) args w
theorem guard (name : String) (w : World) : (FmtStop.guard name).run Tryf.prog w = .ok () w := by kernel_rfl
theorem nextTurns : Extern.next FmtCalls.turnsRow = some (FmtCalls.begun #[] #[]) := by kernel_rfl
theorem nextReturned : Extern.next FmtCalls.returnedRow = some (FmtCalls.returned #[] #[]) := by kernel_rfl

theorem fmt0 : FmtStop.printed? ⟨#[113, 117, 101, 114, 121, 32, 112, 97, 117, 115, 101, 32, 37, 118, 32, 105, 115, 32, 110, 111, 116, 32, 112, 111, 115, 105, 116, 105, 118, 101]⟩ 1 = some [(0, 118, false)] := by kernel_rfl
theorem fmt0r (w : World) : (FmtDoors.printed ⟨#[113, 117, 101, 114, 121, 32, 112, 97, 117, 115, 101, 32, 37, 118, 32, 105, 115, 32, 110, 111, 116, 32, 112, 111, 115, 105, 116, 105, 118, 101]⟩ 1).run Tryf.prog w = .ok [(0, 118, false)] w := by kernel_rfl
theorem fmt1 : FmtStop.printed? ⟨#[108, 111, 99, 97, 108, 32, 102, 97, 117, 108, 116, 115, 32, 37, 100, 32, 105, 115, 32, 110, 101, 103, 97, 116, 105, 118, 101]⟩ 1 = some [(0, 100, false)] := by kernel_rfl
theorem fmt1r (w : World) : (FmtDoors.printed ⟨#[108, 111, 99, 97, 108, 32, 102, 97, 117, 108, 116, 115, 32, 37, 100, 32, 105, 115, 32, 110, 101, 103, 97, 116, 105, 118, 101]⟩ 1).run Tryf.prog w = .ok [(0, 100, false)] w := by kernel_rfl

-- type 27: time.Duration
theorem act27 (name : String) (x : Value) (w : World) : (FmtCalls.act name true 118 false (.iface 27 x)).run Tryf.prog w = .ok (.call false) w := by kernel_rfl
theorem isString27 (w : World) : (FmtDoors.textMethod 27 "String").run Tryf.prog w = .ok true w := by kernel_rfl
theorem invokeString27 (x : Value) (w : World) : (invoke (.fn (.method "String") #[]) #[.iface 27 x]).run Tryf.prog w = .ok (.enter 10 #[x]) w := by kernel_rfl
theorem str27 (w : World) : (typeStr 27).run Tryf.prog w = .ok "time.Duration" w := by kernel_rfl
-- type 3: int
def shape3 : List UInt8 := [5, 3, 0, 0, 0, 0, 0, 0, 0, 105, 110, 116]
theorem act3 (name : String) (x : Value) (w : World) : (FmtCalls.act name true 100 false (.iface 3 x)).run Tryf.prog w = .ok (.closed true) w := by kernel_rfl
theorem op3 (name : String) (x : Int) (w : World) : (FmtStop.operand name true 100 false (.iface 3 (.int .i64 x))).run Tryf.prog w = .ok (shape3, Go.Extern.Stop.digits 8 (x % 2 ^ 64).toNat) w := by kernel_rfl
theorem str3 (w : World) : (typeStr 3).run Tryf.prog w = .ok "int" w := by kernel_rfl
-- the new error's type: 32: a pointer to 34
theorem ptr32 (w : World) : (FmtStop.ptrTo "errors.errorString").run Tryf.prog w = .ok 32 w := by kernel_rfl
theorem elem32 (w : World) : (elemOf 32).run Tryf.prog w = .ok 34 w := by kernel_rfl
end Go.Proofs.Qxb6002352aFmt
