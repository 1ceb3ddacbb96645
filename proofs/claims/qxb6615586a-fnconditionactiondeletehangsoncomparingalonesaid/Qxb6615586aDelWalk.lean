/-
  The walk of 'FnConditionActionDeleteHangsOnComparingAlone' (function 3): it returns true and writes nothing that was there.
-/
import Derived.Test.Qxb6615586aRows
import Derived.WalkKit
import Derived.WalkSpells
import Derived.WalkLawsBesides
import Derived.Below
namespace Go.Proofs.Qxb6615586a
open Go.RowKit

/-- The guard on total length (function 6): nil. -/
theorem guard6_nil (ex ip : Option Addr) (r : Bool) (w : World) :
    Calls Try.prog 6 #[.pointer ex, .pointer none, .pointer ip, .bool r] w fun e w' => e = .returned (.bool true) ∧ w' = w := by
  go_enter Try.func6, Try.ntmps6
  go_wp2
  go_ret
  exact ⟨rfl, rfl⟩

theorem guard6_ok (ex ip : Option Addr) (b off : Nat) (s : ByteArray) (r : Bool) (w : World) (hc : w.cell? ⟨b, off, none⟩ = some (.string s)) (hs : s.size ≤ 1048576) :
    Calls Try.prog 6 #[.pointer ex, .pointer (some ⟨b, off, none⟩), .pointer ip, .bool r] w fun e w' => e = .returned (.bool true) ∧ w' = w := by
  have hs' : ¬ (1048576 : Int) < (s.size : Int) := by omega
  go_enter Try.func6, Try.ntmps6
  go_wp2
  go_ret
  exact ⟨rfl, rfl⟩

theorem guard6_no (ex ip : Option Addr) (b off : Nat) (s : ByteArray) (r : Bool) (w : World) (hc : w.cell? ⟨b, off, none⟩ = some (.string s)) (hs : 1048576 < s.size) :
    Calls Try.prog 6 #[.pointer ex, .pointer (some ⟨b, off, none⟩), .pointer ip, .bool r] w fun e w' => e = .returned (.bool false) ∧ w' = w := by
  have hs' : (1048576 : Int) < (s.size : Int) := by omega
  go_enter Try.func6, Try.ntmps6
  go_wp2
  go_ret
  exact ⟨rfl, rfl⟩

theorem del_no (ex ip : Option Addr) (b off : Nat) (s : ByteArray) (r : Bool) (w : World) (hc : w.cell? ⟨b, off, none⟩ = some (.string s)) (hs : 1048576 < s.size) :
    Calls Try.prog 3 #[.pointer ex, .pointer (some ⟨b, off, none⟩), .pointer ip, .bool r] w fun e w' => e = .returned (.bool true) ∧ Below w.heap.size w w' := by
  go_enter Try.func3, Try.ntmps3
  go_wp2_with (go_at_call 6; refine (guard6_no ex ip b off s r _ hc hs).mono ?_; rintro e w' ⟨rfl, rfl⟩)
  go_ret
  exact ⟨rfl, Below.refl _ _⟩

set_option maxHeartbeats 1000000 in
theorem del_nil_nil (ex : Option Addr) (r : Bool) (w : World) :
    Calls Try.prog 3 #[.pointer ex, .pointer none, .pointer none, .bool r] w fun e w' => e = .returned (.bool true) ∧ Below w.heap.size w w' := by
  rcases ex with _ | ex
  all_goals
    go_enter Try.func3, Try.ntmps3
    go_wp2
    go_ret
    exact ⟨rfl, by repeat (first | exact Below.refl _ _ | apply Below.drew | (refine Below.alloc ?_ (by first | (simp; done) | (simp; omega)) _) | (refine Below.setCell ?_ (by first | (simp; done) | (simp; omega)) _))⟩

set_option maxHeartbeats 1000000 in
theorem del_nil_some (ex : Option Addr) (ip : Addr) (r : Bool) (w : World) :
    Calls Try.prog 3 #[.pointer ex, .pointer none, .pointer (some ip), .bool r] w fun e w' => e = .returned (.bool true) ∧ Below w.heap.size w w' := by
  rcases ex with _ | ex
  all_goals
    go_enter Try.func3, Try.ntmps3
    go_wp2
    go_ret
    exact ⟨rfl, by repeat (first | exact Below.refl _ _ | apply Below.drew | (refine Below.alloc ?_ (by first | (simp; done) | (simp; omega)) _) | (refine Below.setCell ?_ (by first | (simp; done) | (simp; omega)) _))⟩

set_option maxHeartbeats 1000000 in
theorem del_some (ex ip : Option Addr) (b off : Nat) (s : ByteArray) (r : Bool) (w : World) (hc : w.cell? ⟨b, off, none⟩ = some (.string s)) (hs : s.size ≤ 1048576) :
    Calls Try.prog 3 #[.pointer ex, .pointer (some ⟨b, off, none⟩), .pointer ip, .bool r] w fun e w' => e = .returned (.bool true) ∧ Below w.heap.size w w' := by
  have hs' : ¬ (1048576 : Int) < (s.size : Int) := by omega
  rcases ex with _ | ex <;> rcases ip with _ | ip
  all_goals
    go_enter Try.func3, Try.ntmps3
    go_wp2
    go_ret
    exact ⟨rfl, by repeat (first | exact Below.refl _ _ | apply Below.drew | (refine Below.alloc ?_ (by first | (simp; done) | (simp; omega)) _) | (refine Below.setCell ?_ (by first | (simp; done) | (simp; omega)) _))⟩
end Go.Proofs.Qxb6615586a
