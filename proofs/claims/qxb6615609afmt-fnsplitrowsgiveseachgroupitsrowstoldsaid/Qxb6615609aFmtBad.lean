/-
  fmt.Errorf (function 19) at the formats that the laws come to; (*Table).String (function 26).
-/
import Derived.Test.Qxb6615609aFmtRows
import Derived.Test.Qxb6615609aFmtFacts
import Derived.Test.Qxb6615609aFmtMem
import Derived.WalkKit
import Derived.WalkSpells
import Derived.WalkLawsBesides
import Derived.BigQuiet
import Derived.Below
import Derived.Deep.Draws
namespace Go.Proofs.Qxb6615609aFmt
open Go.RowKit Go.Extern.Stop Go.Stop Go.Extern
attribute [local go_sem] Ft.callErrorf Ft.guard Ft.fmt0 Ft.fmt0r Ft.fmt1 Ft.fmt1r Ft.fmt2 Ft.fmt2r Ft.fmt3 Ft.fmt3r Ft.fmt4 Ft.fmt4r Ft.act3_100w Ft.op3_100w Ft.act32_115w Ft.isString32 Ft.isError32 Ft.str32 Ft.ptr65 Ft.elem65 Ft.isError65 Ft.act65_119w Ft.ptr63 Ft.elem63 Ft.isError63 Ft.act63_119w

/-- An error of errors.New's make comes back; nothing that was there has turned. -/
def Plainly (w : World) (e : Ending) (w' : World) : Prop := ∃ a s, e = .returned (.iface 65 (.pointer (some a))) ∧ w'.cell? a = some (.string s) ∧ Below w.heap.size w w'

/-- An error that is not nil comes back; nothing that was there has turned. -/
def Erred (w : World) (e : Ending) (w' : World) : Prop := ∃ t a, e = .returned (.iface t (.pointer (some a))) ∧ Below w.heap.size w w'

theorem plainly_of (w W : World) (s : ByteArray) (t : TypeId) (h : Below w.heap.size w W) : Plainly w (.returned (.iface 65 (.pointer (some ⟨W.heap.size, 0, none⟩)))) ((W.alloc (.cells #[.string s] t)).drew) :=
  ⟨_, s, rfl, by show (W.alloc _).cell? _ = _; rw [World.cell?_alloc_new]; rfl, (h.alloc h.size _).drew⟩

theorem errInts3 (F : Interp) (x y z : Int) (b : Nat) (w : World) (hF : F.answers w.tape)
    (hc : w.cell? ⟨b, 0, none⟩ = some (.iface 3 (.int .i64 x))) (hc1 : w.cell? ⟨b, 1, none⟩ = some (.iface 3 (.int .i64 y))) (hc2 : w.cell? ⟨b, 2, none⟩ = some (.iface 3 (.int .i64 z))) :
    Calls Tryf.prog 19 #[.string ⟨#[37, 100, 32, 98, 121, 116, 101, 115, 32, 97, 114, 101, 32, 110, 111, 116, 32, 37, 100, 32, 118, 97, 108, 117, 101, 115, 32, 111, 102, 32, 37, 100, 32, 98, 121, 116, 101, 115]⟩, .slice (some ⟨b, 0, none⟩) 3 3] w (Plainly w) := by
  have hF' := answers_open hF
  go_enter Tryf.func19, Tryf.ntmps19
  go_wp2
  apply rows_value Ft.nextTurns
  case hr =>
    go_simp
    exact ⟨rfl, rfl⟩
  case h =>
    go_wp2
    go_ret
    exact plainly_of w w _ _ (Below.refl _ _)

theorem errNot (F : Interp) (x y : Int) (b : Nat) (w : World) (hF : F.answers w.tape)
    (hc : w.cell? ⟨b, 0, none⟩ = some (.iface 3 (.int .i64 x))) (hc1 : w.cell? ⟨b, 1, none⟩ = some (.iface 3 (.int .i64 y))) :
    Calls Tryf.prog 19 #[.string ⟨#[37, 100, 32, 98, 121, 116, 101, 115, 32, 97, 114, 101, 32, 110, 111, 116, 32, 37, 100, 32, 83, 116, 114, 105, 110, 103, 115]⟩, .slice (some ⟨b, 0, none⟩) 2 2] w (Plainly w) := by
  have hF' := answers_open hF
  go_enter Tryf.func19, Tryf.ntmps19
  go_wp2
  apply rows_value Ft.nextTurns
  case hr =>
    go_simp
    exact ⟨rfl, rfl⟩
  case h =>
    go_wp2
    go_ret
    exact plainly_of w w _ _ (Below.refl _ _)

theorem errMore (F : Interp) (x y : Int) (b : Nat) (w : World) (hF : F.answers w.tape)
    (hc : w.cell? ⟨b, 0, none⟩ = some (.iface 3 (.int .i64 x))) (hc1 : w.cell? ⟨b, 1, none⟩ = some (.iface 3 (.int .i64 y))) :
    Calls Tryf.prog 19 #[.string ⟨#[37, 100, 32, 98, 121, 116, 101, 115, 32, 97, 114, 101, 32, 109, 111, 114, 101, 32, 116, 104, 97, 110, 32, 37, 100, 32, 83, 116, 114, 105, 110, 103, 115]⟩, .slice (some ⟨b, 0, none⟩) 2 2] w (Plainly w) := by
  have hF' := answers_open hF
  go_enter Tryf.func19, Tryf.ntmps19
  go_wp2
  apply rows_value Ft.nextTurns
  case hr =>
    go_simp
    exact ⟨rfl, rfl⟩
  case h =>
    go_wp2
    go_ret
    exact plainly_of w w _ _ (Below.refl _ _)

/-- A text comes back; nothing has turned. -/
def Spoken (w : World) (e : Ending) (w' : World) : Prop := ∃ s, e = .returned (.string s) ∧ Below w.heap.size w w'

set_option maxHeartbeats 1000000 in
theorem string26 (bt : Nat) (db nm : ByteArray) (w : World) (h0 : w.cell? ⟨bt, 0, none⟩ = some (.string db)) (h1 : w.cell? ⟨bt, 1, none⟩ = some (.string nm)) (hd : db.size ≤ 1048576) (hn : nm.size ≤ 1048576) :
    Calls Tryf.prog 26 #[.pointer (some ⟨bt, 0, none⟩)] w (Spoken w) := by
  go_enter Tryf.func26, Tryf.ntmps26
  go_wp2
  go_quiet (fail)
  go_wp2
  go_ret
  exact ⟨_, rfl, ⟨rfl, rfl, rfl, Nat.le_refl _, fun _ _ => rfl⟩⟩

theorem errRows (F : Interp) (x y : Int) (bt : Nat) (db nm : ByteArray) (b : Nat) (w : World) (hF : F.answers w.tape) (h0 : w.cell? ⟨bt, 0, none⟩ = some (.string db)) (h1 : w.cell? ⟨bt, 1, none⟩ = some (.string nm)) (hd : db.size ≤ 1048576) (hn : nm.size ≤ 1048576) (hb : b < w.heap.size)
    (hc : w.cell? ⟨b, 0, none⟩ = some (.iface 3 (.int .i64 x))) (hc1 : w.cell? ⟨b, 1, none⟩ = some (.iface 3 (.int .i64 y))) (hc2 : w.cell? ⟨b, 2, none⟩ = some (.iface 32 (.pointer (some ⟨bt, 0, none⟩)))) :
    Calls Tryf.prog 19 #[.string ⟨#[116, 104, 101, 32, 114, 111, 119, 115, 32, 97, 114, 101, 32, 105, 110, 32, 37, 100, 32, 98, 121, 116, 101, 32, 115, 116, 114, 105, 110, 103, 115, 44, 32, 110, 111, 116, 32, 116, 104, 101, 32, 37, 100, 32, 111, 102, 32, 116, 97, 98, 108, 101, 32, 37, 115]⟩, .slice (some ⟨b, 0, none⟩) 3 3] w (Erred w) := by
  have hF' := answers_open hF
  go_enter Tryf.func19, Tryf.ntmps19
  go_wp2
  apply rows_call Ft.nextTurns
  case hr =>
    go_simp
    exact ⟨⟨rfl, rfl, rfl⟩, rfl⟩
  case hi => exact Ft.invokeString32 _ _
  case hc =>
    refine (string26 bt db nm _ h0 h1 hd hn).mono ?_
    rintro e w3 ⟨s, rfl, hx⟩
    have hF3 := answers_open (show F.answers w3.tape by rw [hx.tape]; exact hF)
    have k0 : w3.cell? ⟨b, 0, none⟩ = some (.iface 3 (.int .i64 x)) := by rw [hx.cell (p := ⟨b, 0, none⟩) hb]; exact hc
    have k1 : w3.cell? ⟨b, 1, none⟩ = some (.iface 3 (.int .i64 y)) := by rw [hx.cell (p := ⟨b, 1, none⟩) hb]; exact hc1
    have k2 : w3.cell? ⟨b, 2, none⟩ = some (.iface 32 (.pointer (some ⟨bt, 0, none⟩))) := by rw [hx.cell (p := ⟨b, 2, none⟩) hb]; exact hc2
    have Hx := hide hx
    clear hx hF' hc hc1 hc2
    apply rows_value Ft.nextReturned
    case hr =>
      go_simp
      exact ⟨rfl, rfl⟩
    case h =>
      go_wp2
      go_ret
      exact ⟨_, _, rfl, (Hx.out.alloc Hx.out.size _).drew⟩

theorem errTable (F : Interp) (y : Int) (bt : Nat) (db nm : ByteArray) (ae : Addr) (se : ByteArray) (b : Nat) (w : World) (hF : F.answers w.tape) (h0 : w.cell? ⟨bt, 0, none⟩ = some (.string db)) (h1 : w.cell? ⟨bt, 1, none⟩ = some (.string nm)) (hd : db.size ≤ 1048576) (hn : nm.size ≤ 1048576) (hb : b < w.heap.size)
    (hae : ae.block < w.heap.size) (hse : w.cell? ae = some (.string se))
    (hc : w.cell? ⟨b, 0, none⟩ = some (.iface 32 (.pointer (some ⟨bt, 0, none⟩)))) (hc1 : w.cell? ⟨b, 1, none⟩ = some (.iface 3 (.int .i64 y))) (hc2 : w.cell? ⟨b, 2, none⟩ = some (.iface 65 (.pointer (some ae)))) :
    Calls Tryf.prog 19 #[.string ⟨#[116, 97, 98, 108, 101, 32, 37, 115, 58, 32, 98, 121, 116, 101, 32, 115, 116, 114, 105, 110, 103, 32, 37, 100, 58, 32, 37, 119]⟩, .slice (some ⟨b, 0, none⟩) 3 3] w (Erred w) := by
  have hF' := answers_open hF
  have hop := fun (name : String) => Ft.opPlain65_119w name ae se w hse
  go_enter Tryf.func19, Tryf.ntmps19
  go_wp2
  apply rows_call Ft.nextTurns
  case hr =>
    go_simp
    exact ⟨⟨rfl, rfl, rfl⟩, rfl⟩
  case hi => exact Ft.invokeString32 _ _
  case hc =>
    refine (string26 bt db nm _ h0 h1 hd hn).mono ?_
    rintro e w3 ⟨s, rfl, hx⟩
    have hF3 := answers_open (show F.answers w3.tape by rw [hx.tape]; exact hF)
    have k0 : w3.cell? ⟨b, 0, none⟩ = some (.iface 32 (.pointer (some ⟨bt, 0, none⟩))) := by rw [hx.cell (p := ⟨b, 0, none⟩) hb]; exact hc
    have k1 : w3.cell? ⟨b, 1, none⟩ = some (.iface 3 (.int .i64 y)) := by rw [hx.cell (p := ⟨b, 1, none⟩) hb]; exact hc1
    have k2 : w3.cell? ⟨b, 2, none⟩ = some (.iface 65 (.pointer (some ae))) := by rw [hx.cell (p := ⟨b, 2, none⟩) hb]; exact hc2
    have hop3 := fun (name : String) => Ft.opPlain65_119w name ae se w3 (by rw [hx.cell hae]; exact hse)
    have Hx := hide hx
    clear hx hF' hc hc1 hc2 hop
    apply rows_value Ft.nextReturned
    case hr =>
      go_simp
      exact ⟨rfl, rfl⟩
    case h =>
      go_wp2
      go_ret
      exact ⟨_, _, rfl, (Hx.out.alloc Hx.out.size _).drew⟩
end Go.Proofs.Qxb6615609aFmt
