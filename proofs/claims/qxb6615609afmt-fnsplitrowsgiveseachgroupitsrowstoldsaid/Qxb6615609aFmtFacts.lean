/-
  Closed facts for a walk over fmt's stopped front at this dump (the form: the guide's worked texts' ..Fmt.lean), each by the kernel's own evaluation.
-/
import Derived.Test.Qxb6615609aFmtProg
import Derived.Stop.CallBack
import Derived.Stop.IfaceNil
import GoSem.ClaimData
import Derived.KernelRfl
namespace Go.Proofs.Qxb6615609aFmt.Ft
open Go.Extern.Stop Go.Stop Go.Extern

theorem callErrorf (args : Array Value) (w : World) : (callFunc 24 args).run Tryf.prog w = (FmtCalls.errorf #[9, 61] #[35] args).run Tryf.prog w := run_callFunc_next Tryf.func24 (by kernel_rfl) (by kernel_rfl) (by kernel_rfl) args w
theorem guard (name : String) (w : World) : (FmtStop.guard name).run Tryf.prog w = .ok () w := by kernel_rfl
theorem nextTurns   : Extern.next FmtCalls.turnsRow = some (FmtCalls.begun #[] #[]) := by kernel_rfl
theorem nextReturned  : Extern.next FmtCalls.returnedRow = some (FmtCalls.returned #[] #[]) := by kernel_rfl
-- %d bytes are not %d values of %d bytes, 3 operands
theorem fmt0 : FmtStop.printed? ⟨#[37, 100, 32, 98, 121, 116, 101, 115, 32, 97, 114, 101, 32, 110, 111, 116, 32, 37, 100, 32, 118, 97, 108, 117, 101, 115, 32, 111, 102, 32, 37, 100, 32, 98, 121, 116, 101, 115]⟩ 3 = some [(0, 100, false), (1, 100, false), (2, 100, false)] := by kernel_rfl
theorem fmt0r (w : World) : (FmtDoors.printed ⟨#[37, 100, 32, 98, 121, 116, 101, 115, 32, 97, 114, 101, 32, 110, 111, 116, 32, 37, 100, 32, 118, 97, 108, 117, 101, 115, 32, 111, 102, 32, 37, 100, 32, 98, 121, 116, 101, 115]⟩ 3).run Tryf.prog w = .ok [(0, 100, false), (1, 100, false), (2, 100, false)] w := by kernel_rfl
-- %d bytes are not %d Strings, 2 operands
theorem fmt1 : FmtStop.printed? ⟨#[37, 100, 32, 98, 121, 116, 101, 115, 32, 97, 114, 101, 32, 110, 111, 116, 32, 37, 100, 32, 83, 116, 114, 105, 110, 103, 115]⟩ 2 = some [(0, 100, false), (1, 100, false)] := by kernel_rfl
theorem fmt1r (w : World) : (FmtDoors.printed ⟨#[37, 100, 32, 98, 121, 116, 101, 115, 32, 97, 114, 101, 32, 110, 111, 116, 32, 37, 100, 32, 83, 116, 114, 105, 110, 103, 115]⟩ 2).run Tryf.prog w = .ok [(0, 100, false), (1, 100, false)] w := by kernel_rfl
-- %d bytes are more than %d Strings, 2 operands
theorem fmt2 : FmtStop.printed? ⟨#[37, 100, 32, 98, 121, 116, 101, 115, 32, 97, 114, 101, 32, 109, 111, 114, 101, 32, 116, 104, 97, 110, 32, 37, 100, 32, 83, 116, 114, 105, 110, 103, 115]⟩ 2 = some [(0, 100, false), (1, 100, false)] := by kernel_rfl
theorem fmt2r (w : World) : (FmtDoors.printed ⟨#[37, 100, 32, 98, 121, 116, 101, 115, 32, 97, 114, 101, 32, 109, 111, 114, 101, 32, 116, 104, 97, 110, 32, 37, 100, 32, 83, 116, 114, 105, 110, 103, 115]⟩ 2).run Tryf.prog w = .ok [(0, 100, false), (1, 100, false)] w := by kernel_rfl
-- table %s: byte string %d: %w, 3 operands
theorem fmt3 : FmtStop.printed? ⟨#[116, 97, 98, 108, 101, 32, 37, 115, 58, 32, 98, 121, 116, 101, 32, 115, 116, 114, 105, 110, 103, 32, 37, 100, 58, 32, 37, 119]⟩ 3 = some [(0, 115, false), (1, 100, false), (2, 119, false)] := by kernel_rfl
theorem fmt3r (w : World) : (FmtDoors.printed ⟨#[116, 97, 98, 108, 101, 32, 37, 115, 58, 32, 98, 121, 116, 101, 32, 115, 116, 114, 105, 110, 103, 32, 37, 100, 58, 32, 37, 119]⟩ 3).run Tryf.prog w = .ok [(0, 115, false), (1, 100, false), (2, 119, false)] w := by kernel_rfl
-- the rows are in %d byte strings, not the %d of table %s, 3 operands
theorem fmt4 : FmtStop.printed? ⟨#[116, 104, 101, 32, 114, 111, 119, 115, 32, 97, 114, 101, 32, 105, 110, 32, 37, 100, 32, 98, 121, 116, 101, 32, 115, 116, 114, 105, 110, 103, 115, 44, 32, 110, 111, 116, 32, 116, 104, 101, 32, 37, 100, 32, 111, 102, 32, 116, 97, 98, 108, 101, 32, 37, 115]⟩ 3 = some [(0, 100, false), (1, 100, false), (2, 115, false)] := by kernel_rfl
theorem fmt4r (w : World) : (FmtDoors.printed ⟨#[116, 104, 101, 32, 114, 111, 119, 115, 32, 97, 114, 101, 32, 105, 110, 32, 37, 100, 32, 98, 121, 116, 101, 32, 115, 116, 114, 105, 110, 103, 115, 44, 32, 110, 111, 116, 32, 116, 104, 101, 32, 37, 100, 32, 111, 102, 32, 116, 97, 98, 108, 101, 32, 37, 115]⟩ 3).run Tryf.prog w = .ok [(0, 100, false), (1, 100, false), (2, 115, false)] w := by kernel_rfl
def shape3 : List UInt8 := [5, 3, 0, 0, 0, 0, 0, 0, 0, 105, 110, 116]
theorem act3_100w (name : String) (x : Value) (w : World) : (FmtCalls.act name true 100 false (.iface 3 x)).run Tryf.prog w = .ok (.closed true) w := by kernel_rfl
theorem op3_100w (name : String) (x : Int) (w : World) : (FmtStop.operand name true 100 false (.iface 3 (.int .i64 x))).run Tryf.prog w = .ok (shape3, Go.Extern.Stop.digits 8 (x % 2 ^ 64).toNat) w := by kernel_rfl
theorem act32_115w (name : String) (x : Value) (w : World) : (FmtCalls.act name true 115 false (.iface 32 x)).run Tryf.prog w = .ok (.call false) w := by kernel_rfl
theorem isString32 (w : World) : (FmtDoors.textMethod 32 "String").run Tryf.prog w = .ok true w := by kernel_rfl
theorem isError32 (w : World) : (FmtDoors.textMethod 32 "Error").run Tryf.prog w = .ok false w := by kernel_rfl
theorem invokeString32 (x : Value) (w : World) : (invoke (.fn (.method "String") #[]) #[.iface 32 x]).run Tryf.prog w = .ok (.enter 26 #[x]) w := by kernel_rfl
theorem str32 (w : World) : (typeStr 32).run Tryf.prog w = .ok Tryf.t32.str w := by kernel_rfl
theorem ptr65 (w : World) : (FmtStop.ptrTo "errors.errorString").run Tryf.prog w = .ok 65 w := by kernel_rfl
theorem elem65 (w : World) : (elemOf 65).run Tryf.prog w = .ok 67 w := by kernel_rfl
theorem isError65 (w : World) : (FmtDoors.textMethod 65 "Error").run Tryf.prog w = .ok true w := by kernel_rfl
theorem act65_119w (name : String) (x : Value) (w : World) : (FmtCalls.act name true 119 false (.iface 65 x)).run Tryf.prog w = .ok (.closed true) w := by kernel_rfl
theorem ptr63 (w : World) : (FmtStop.ptrTo "fmt.wrapError").run Tryf.prog w = .ok 63 w := by kernel_rfl
theorem elem63 (w : World) : (elemOf 63).run Tryf.prog w = .ok 93 w := by kernel_rfl
theorem isError63 (w : World) : (FmtDoors.textMethod 63 "Error").run Tryf.prog w = .ok true w := by kernel_rfl
theorem act63_119w (name : String) (x : Value) (w : World) : (FmtCalls.act name true 119 false (.iface 63 x)).run Tryf.prog w = .ok (.closed true) w := by kernel_rfl

/-- an error of errors.New's make as an operand of %w: it reads as its type's name and its text, out of memory -/
noncomputable def plain65 : List UInt8 := 14 :: FmtStop.pack Tryf.t65.str.toUTF8.data.toList
theorem opPlain65_119w (name : String) (a : Addr) (s : ByteArray) (w : World) (hc : w.cell? a = some (.string s)) :
    (FmtStop.operand name true 119 false (.iface 65 (.pointer (some a)))).run Tryf.prog w = .ok (plain65, s.data.toList) w := by
  have h1 : (typeStr 65).run Tryf.prog w = .ok Tryf.t65.str w := by kernel_rfl
  have d2 : Tryf.t65.desc = .pointer 67 := rfl
  have d3 : Tryf.t67.desc = .named "errors.errorString" 66 := rfl
  simp [FmtStop.operand, h1, d2, d3, run_load, hc, plain65]

end Go.Proofs.Qxb6615609aFmt.Ft
