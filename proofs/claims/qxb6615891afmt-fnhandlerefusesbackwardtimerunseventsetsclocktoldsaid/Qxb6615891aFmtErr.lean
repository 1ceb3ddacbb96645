/-
  fmt.Errorf (function 17) at the formats that the laws come to; (RecallMode).String (function 26).
-/
import Derived.Test.Qxb6615891aFmtRows
import Derived.Test.Qxb6615891aFmtFacts
import Derived.WalkKit
import Derived.WalkSpells
import Derived.WalkLawsBesides
import Derived.Below
import Derived.Deep.Draws
namespace Go.Proofs.Qxb6615891aFmt
open Go.RowKit Go.Extern.Stop Go.Stop Go.Extern
attribute [local go_sem] Ft.callErrorf Ft.callSprintf Ft.guard Ft.fmt0 Ft.fmt0r Ft.fmt1 Ft.fmt1r Ft.fmt2 Ft.fmt2r Ft.act3_100 Ft.op3_100 Ft.act22_118w Ft.isString22 Ft.isError22 Ft.str22 Ft.act29_118w Ft.isString29 Ft.isError29 Ft.str29 Ft.ptr63 Ft.elem63 Ft.isError63 Ft.act63_119w Ft.ptr62 Ft.elem62 Ft.isError62 Ft.act62_119w

theorem hide {p : Prop} (h : p) : Hid p := h

/-- A text comes back; nothing that was there has turned. -/
def Texted (w : World) (e : Ending) (w' : World) : Prop := ∃ s, e = .returned (.string s) ∧ Below w.heap.size w w'

/-- An error that is not nil comes back; nothing that was there has turned. -/
def Erred (w : World) (e : Ending) (w' : World) : Prop := ∃ t a, e = .returned (.iface t (.pointer (some a))) ∧ Below w.heap.size w w'

set_option maxHeartbeats 1000000 in
theorem string26 (F : Interp) (m : Int) (w : World) (hF : F.answers w.tape) (h0 : (m == 0) = false) (h1 : (m == 1) = false) : Calls Tryf.prog 26 #[.int .i64 m] w (Texted w) := by
  have hF' := answers_open hF
  go_enter Tryf.func26, Tryf.ntmps26
  go_wp2
  go_ret
  exact ⟨_, rfl, ((Below.refl _ _).alloc (Nat.le_refl _) _).drew⟩

/-- fmt.Errorf("unknown recall mode %v", m), the operand in the block b. -/
theorem errMode (F : Interp) (m : Int) (b : Nat) (w : World) (hF : F.answers w.tape) (h0 : (m == 0) = false) (h1 : (m == 1) = false) (hb : b < w.heap.size) (hc : w.cell? ⟨b, 0, none⟩ = some (.iface 22 (.int .i64 m))) :
    Calls Tryf.prog 17 #[.string ⟨#[117, 110, 107, 110, 111, 119, 110, 32, 114, 101, 99, 97, 108, 108, 32, 109, 111, 100, 101, 32, 37, 118]⟩, .slice (some ⟨b, 0, none⟩) 1 1] w (Erred w) := by
  have hF' := answers_open hF
  go_enter Tryf.func17, Tryf.ntmps17
  go_wp2
  apply rows_call Ft.nextTurns
  case hr =>
    go_simp
    exact ⟨⟨rfl, rfl, rfl⟩, rfl⟩
  case hi => exact Ft.invokeString22 _ _
  case hc =>
    refine (string26 F m _ (by exact hF) h0 h1).mono ?_
    rintro e w3 ⟨s, rfl, hx⟩
    have hF3 := answers_open (show F.answers w3.tape by rw [hx.tape]; exact hF)
    have hc3 : w3.cell? ⟨b, 0, none⟩ = some (.iface 22 (.int .i64 m)) := by rw [hx.cell (p := ⟨b, 0, none⟩) hb]; exact hc
    have Hx := hide hx
    clear hx hF' hc
    apply rows_value Ft.nextReturned
    case hr =>
      go_simp
      exact ⟨rfl, rfl⟩
    case h =>
      go_wp2
      go_ret
      exact ⟨_, _, rfl, (Hx.out.alloc Hx.out.size _).drew⟩
end Go.Proofs.Qxb6615891aFmt
