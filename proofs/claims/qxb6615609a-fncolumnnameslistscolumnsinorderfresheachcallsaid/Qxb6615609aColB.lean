/-
  Callees of 'FnColumnNamesListsColumnsInOrderFreshEachCall': zzSameStrings (function 8).
-/
import Derived.Test.Qxb6615609aColA
import Derived.Deep.QuietTactic
import Derived.BigQuiet
namespace Go.Proofs.Qxb6615609a
open Go.RowKit

/-- The call hands back v; the world has at most drawn. -/
def Drawn (v : Value) (w : World) (e : Ending) (w' : World) : Prop := e = .returned v ∧ ∃ m, w' = w.drewN m

theorem same8_empty (a a' : Option Addr) (c c' : Nat) (w : World) :
    Calls Try.prog 8 #[.slice a 0 c, .slice a' 0 c'] w fun e w' => Drawn (.bool true) w e w' := by
  go_enter Try.func8, Try.ntmps8
  go_wp2
  go_loop [5] (fun i => i = .int .i64 0) (fun _ => 0)
  case atStart => rfl
  case round =>
    subst hrel
    go_wp2
    go_ret
    exact ⟨rfl, 0, rfl⟩

set_option maxHeartbeats 1000000 in
theorem same8_rows (b o b' o' n c c' : Nat) (f : Nat → ByteArray) (w : World) (hn : n ≤ 1048576) (h : StrRow w b o f n) (h' : StrRow w b' o' f n) :
    Calls Try.prog 8 #[.slice (some ⟨b, o, none⟩) n c, .slice (some ⟨b', o', none⟩) n c'] w fun e w' => Drawn (.bool true) w e w' := by
  go_enter Try.func8, Try.ntmps8
  go_wp2
  go_loopw [5] (fun i wr => ∃ k : Nat, k ≤ n ∧ i = .int .i64 k ∧ ∃ m, wr = w.drewN m) (fun i _ => n - (intOf i).toNat)
  case atStart => exact ⟨0, by omega, rfl, 0, rfl⟩
  case round =>
    obtain ⟨k, hk, rfl, m, rfl⟩ := hrel
    by_cases hlt : k < n
    · have hck := h k hlt
      have hck' := h' k hlt
      clear h h'
      go_wp2
      go_quiet (fail)
      go_wp2
      go_roundw
      case rel => exact ⟨k + 1, by omega, by go_num, _, rfl⟩
      case measure => simp [intOf]; omega
    · clear h h'
      go_wp2
      go_ret
      exact ⟨rfl, _, rfl⟩
end Go.Proofs.Qxb6615609a
