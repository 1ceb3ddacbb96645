/-
  Callees of 'FnColumnNamesListsColumnsInOrderFreshEachCall': the guard on total length (function 5).
-/
import Derived.Test.Qxb6615609aRows
import Derived.WalkKit
import Derived.WalkSpells
import Derived.WalkLawsBesides
import Derived.Below
namespace Go.Proofs.Qxb6615609a
open Go.RowKit

/-- A row of strings lies at ⟨b, off⟩ .. : cell i holds 'f i'. -/
def StrRow (w : World) (b off : Nat) (f : Nat → ByteArray) (n : Nat) : Prop := ∀ i, i < n → w.cell? ⟨b, off + i, none⟩ = some (.string (f i))

/-- What the guard comes to: it hands back a bool and turns nothing; where it says yes, N is within the bound. (A name of its own, so that the walk leaves it closed.) -/
def Guarded (N : Nat) (w : World) (e : Ending) (w' : World) : Prop := ∃ g, e = .returned (.bool g) ∧ w' = w ∧ (g = true → N ≤ 1048576)

theorem guard5_empty (db nm : ByteArray) (a : Option Addr) (cap : Nat) (w : World) (h0 : db.size ≤ maxLen) (h1 : nm.size ≤ maxLen) :
    Calls Try.prog 5 #[.string db, .string nm, .slice a 0 cap] w fun e w' => Guarded (db.size + nm.size) w e w' := by
  unfold maxLen at h0 h1
  by_cases c0 : (1048576 : Int) < db.size
  · go_enter Try.func5, Try.ntmps5
    go_wp2
    go_ret
    exact ⟨false, rfl, rfl, by simp⟩
  by_cases c1 : (1048576 : Int) < nm.size
  · go_enter Try.func5, Try.ntmps5
    go_wp2
    go_ret
    exact ⟨false, rfl, rfl, by simp⟩
  by_cases c2 : (1048576 : Int) < db.size + nm.size
  · go_enter Try.func5, Try.ntmps5
    go_wp2
    go_ret
    exact ⟨false, rfl, rfl, by simp⟩
  go_enter Try.func5, Try.ntmps5
  go_wp2
  go_loop [7, 8] (fun z i => i = .int .i64 0 ∧ ∃ q : Int, z = .int .i64 q) (fun _ _ => 0)
  case atStart => exact ⟨rfl, _, rfl⟩
  case round =>
    obtain ⟨rfl, q, rfl⟩ := hrel
    go_wp2
    go_ret
    exact ⟨true, rfl, rfl, by intro _; omega⟩

set_option maxHeartbeats 1000000 in
theorem guard5_row (db nm : ByteArray) (b off len cap : Nat) (f : Nat → ByteArray) (w : World) (h0 : db.size ≤ maxLen) (h1 : nm.size ≤ maxLen) (hl : len ≤ maxLen) (hf : ∀ i, i < len → (f i).size ≤ maxLen) (hr : StrRow w b off f len) :
    Calls Try.prog 5 #[.string db, .string nm, .slice (some ⟨b, off, none⟩) len cap] w fun e w' => Guarded (db.size + nm.size + len) w e w' := by
  unfold maxLen at h0 h1 hl hf
  by_cases c0 : (1048576 : Int) < db.size
  · go_enter Try.func5, Try.ntmps5
    go_wp2
    go_ret
    exact ⟨false, rfl, rfl, by simp⟩
  by_cases c1 : (1048576 : Int) < nm.size
  · go_enter Try.func5, Try.ntmps5
    go_wp2
    go_ret
    exact ⟨false, rfl, rfl, by simp⟩
  by_cases c2 : (1048576 : Int) < db.size + nm.size
  · go_enter Try.func5, Try.ntmps5
    go_wp2
    go_ret
    exact ⟨false, rfl, rfl, by simp⟩
  by_cases c3 : (1048576 : Int) < len
  · go_enter Try.func5, Try.ntmps5
    go_wp2
    go_ret
    exact ⟨false, rfl, rfl, by simp⟩
  by_cases c4 : (1048576 : Int) < db.size + nm.size + len
  · go_enter Try.func5, Try.ntmps5
    go_wp2
    go_ret
    exact ⟨false, rfl, rfl, by simp⟩
  go_enter Try.func5, Try.ntmps5
  go_wp2
  go_loop [7, 8] (fun z i => ∃ k : Nat, k ≤ len ∧ i = .int .i64 k ∧ ∃ q : Int, z = .int .i64 q ∧ 0 ≤ q ∧ q ≤ 1048576) (fun _ i => len - (intOf i).toNat)
  case atStart => exact ⟨0, by omega, rfl, _, rfl, by omega, by omega⟩
  case round =>
    obtain ⟨k, hk, rfl, q, rfl, hq0, hq1⟩ := hrel
    by_cases hlt : k < len
    · have hck := hr k hlt
      have hfk := hf k hlt
      clear hr hf
      by_cases d0 : (1048576 : Int) < (f k).size
      · go_wp2
        go_ret
        exact ⟨false, rfl, rfl, by simp⟩
      by_cases d1 : (1048576 : Int) < q + (f k).size
      · go_wp2
        go_ret
        exact ⟨false, rfl, rfl, by simp⟩
      go_wp2
      go_round
      case rel => exact ⟨k + 1, by omega, by go_num, _, rfl, by omega, by omega⟩
      case measure => simp [intOf]; omega
    · clear hr hf
      go_wp2
      go_ret
      exact ⟨true, rfl, rfl, by intro _; omega⟩
end Go.Proofs.Qxb6615609a
