/-
  Closed facts for a walk over fmt's stopped fronts at this dump (the form: the guide's worked texts' ..Fmt.lean), each by the kernel's own evaluation.
-/
import Derived.Test.Qxb6615891aFmtProg
import Derived.Stop.CallBack
import Derived.Stop.IfaceNil
import GoSem.ClaimData
import Derived.KernelRfl
namespace Go.Proofs.Qxb6615891aFmt.Ft
open Go.Extern.Stop Go.Stop Go.Extern

theorem callErrorf (args : Array Value) (w : World) : (callFunc 24 args).run Tryf.prog w = (FmtCalls.errorf #[9, 61] #[26] args).run Tryf.prog w := run_callFunc_next Tryf.func24 (by kernel_rfl) (by kernel_rfl) (by kernel_rfl) args w
theorem callSprintf (args : Array Value) (w : World) : (callFunc 31 args).run Tryf.prog w = ((FmtStop.sprintf #[9, 61] #[9] args).run Tryf.prog w).andThen fun v w' => .ok (.value v) w' := run_callFunc_extern Tryf.func31 (by kernel_rfl) (by kernel_rfl) (by kernel_rfl) (by kernel_rfl) args w
theorem guard (name : String) (w : World) : (FmtStop.guard name).run Tryf.prog w = .ok () w := by kernel_rfl
theorem nextTurns   : Extern.next FmtCalls.turnsRow = some (FmtCalls.begun #[] #[]) := by kernel_rfl
theorem nextReturned  : Extern.next FmtCalls.returnedRow = some (FmtCalls.returned #[] #[]) := by kernel_rfl
-- unknown recall mode %v, 1 operands
theorem fmt0 : FmtStop.printed? ⟨#[117, 110, 107, 110, 111, 119, 110, 32, 114, 101, 99, 97, 108, 108, 32, 109, 111, 100, 101, 32, 37, 118]⟩ 1 = some [(0, 118, false)] := by kernel_rfl
theorem fmt0r (w : World) : (FmtDoors.printed ⟨#[117, 110, 107, 110, 111, 119, 110, 32, 114, 101, 99, 97, 108, 108, 32, 109, 111, 100, 101, 32, 37, 118]⟩ 1).run Tryf.prog w = .ok [(0, 118, false)] w := by kernel_rfl
-- RecallMode(%d), 1 operands
theorem fmt1 : FmtStop.printed? ⟨#[82, 101, 99, 97, 108, 108, 77, 111, 100, 101, 40, 37, 100, 41]⟩ 1 = some [(0, 100, false)] := by kernel_rfl
theorem fmt1r (w : World) : (FmtDoors.printed ⟨#[82, 101, 99, 97, 108, 108, 77, 111, 100, 101, 40, 37, 100, 41]⟩ 1).run Tryf.prog w = .ok [(0, 100, false)] w := by kernel_rfl
-- "time %v is before the engines time %v", 2 operands
theorem fmt2 : FmtStop.printed? ⟨#[116, 105, 109, 101, 32, 37, 118, 32, 105, 115, 32, 98, 101, 102, 111, 114, 101, 32, 116, 104, 101, 32, 101, 110, 103, 105, 110, 101, 39, 115, 32, 116, 105, 109, 101, 32, 37, 118]⟩ 2 = some [(0, 118, false), (1, 118, false)] := by kernel_rfl
theorem fmt2r (w : World) : (FmtDoors.printed ⟨#[116, 105, 109, 101, 32, 37, 118, 32, 105, 115, 32, 98, 101, 102, 111, 114, 101, 32, 116, 104, 101, 32, 101, 110, 103, 105, 110, 101, 39, 115, 32, 116, 105, 109, 101, 32, 37, 118]⟩ 2).run Tryf.prog w = .ok [(0, 118, false), (1, 118, false)] w := by kernel_rfl
def shape3 : List UInt8 := [5, 3, 0, 0, 0, 0, 0, 0, 0, 105, 110, 116]
theorem act3_100 (name : String) (x : Value) (w : World) : (FmtCalls.act name false 100 false (.iface 3 x)).run Tryf.prog w = .ok (.closed false) w := by kernel_rfl
theorem op3_100 (name : String) (x : Int) (w : World) : (FmtStop.operand name false 100 false (.iface 3 (.int .i64 x))).run Tryf.prog w = .ok (shape3, Go.Extern.Stop.digits 8 (x % 2 ^ 64).toNat) w := by kernel_rfl
theorem act22_118w (name : String) (x : Value) (w : World) : (FmtCalls.act name true 118 false (.iface 22 x)).run Tryf.prog w = .ok (.call false) w := by kernel_rfl
theorem isString22 (w : World) : (FmtDoors.textMethod 22 "String").run Tryf.prog w = .ok true w := by kernel_rfl
theorem isError22 (w : World) : (FmtDoors.textMethod 22 "Error").run Tryf.prog w = .ok false w := by kernel_rfl
theorem invokeString22 (x : Value) (w : World) : (invoke (.fn (.method "String") #[]) #[.iface 22 x]).run Tryf.prog w = .ok (.enter 26 #[x]) w := by kernel_rfl
theorem str22 (w : World) : (typeStr 22).run Tryf.prog w = .ok Tryf.t22.str w := by kernel_rfl
theorem act29_118w (name : String) (x : Value) (w : World) : (FmtCalls.act name true 118 false (.iface 29 x)).run Tryf.prog w = .ok (.call false) w := by kernel_rfl
theorem isString29 (w : World) : (FmtDoors.textMethod 29 "String").run Tryf.prog w = .ok true w := by kernel_rfl
theorem isError29 (w : World) : (FmtDoors.textMethod 29 "Error").run Tryf.prog w = .ok false w := by kernel_rfl
theorem invokeString29 (x : Value) (w : World) : (invoke (.fn (.method "String") #[]) #[.iface 29 x]).run Tryf.prog w = .ok (.enter 25 #[x]) w := by kernel_rfl
theorem str29 (w : World) : (typeStr 29).run Tryf.prog w = .ok Tryf.t29.str w := by kernel_rfl
theorem ptr63 (w : World) : (FmtStop.ptrTo "errors.errorString").run Tryf.prog w = .ok 63 w := by kernel_rfl
theorem elem63 (w : World) : (elemOf 63).run Tryf.prog w = .ok 65 w := by kernel_rfl
theorem isError63 (w : World) : (FmtDoors.textMethod 63 "Error").run Tryf.prog w = .ok true w := by kernel_rfl
theorem act63_119w (name : String) (x : Value) (w : World) : (FmtCalls.act name true 119 false (.iface 63 x)).run Tryf.prog w = .ok (.closed true) w := by kernel_rfl
theorem ptr62 (w : World) : (FmtStop.ptrTo "fmt.wrapError").run Tryf.prog w = .ok 62 w := by kernel_rfl
theorem elem62 (w : World) : (elemOf 62).run Tryf.prog w = .ok 118 w := by kernel_rfl
theorem isError62 (w : World) : (FmtDoors.textMethod 62 "Error").run Tryf.prog w = .ok true w := by kernel_rfl
theorem act62_119w (name : String) (x : Value) (w : World) : (FmtCalls.act name true 119 false (.iface 62 x)).run Tryf.prog w = .ok (.closed true) w := by kernel_rfl
end Go.Proofs.Qxb6615891aFmt.Ft
