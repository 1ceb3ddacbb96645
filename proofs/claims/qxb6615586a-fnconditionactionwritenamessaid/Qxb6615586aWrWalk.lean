/-
  The walk of 'FnConditionActionWriteNames' (function 4): it returns true and writes nothing that was there.
  'ex' is nil, or leads to a cell that holds a bool.
-/
import Derived.Test.Qxb6615586aRows
import Derived.WalkKit
import Derived.WalkSpells
import Derived.WalkLawsBesides
import Derived.Below
namespace Go.Proofs.Qxb6615586a
open Go.RowKit

/-- A pointer to a bool that came in: nil, or at a cell that holds a bool. -/
def IsBoolPtr (w : World) (ex : Option Addr) : Prop := ex = none ∨ ∃ b off x, ex = some ⟨b, off, none⟩ ∧ w.cell? ⟨b, off, none⟩ = some (.bool x)

/-- A cell that was there is there behind new blocks. -/
theorem cell_up {w : World} {b o : Nat} {v : Value} (h : w.cell? ⟨b, o, none⟩ = some v) (x : Obj) : (w.alloc x).cell? ⟨b, o, none⟩ = some v := by
  rw [World.cell?_alloc_past _ _ _ (World.block_lt_of_cell? _ _ h), h]
theorem cell_up2 {w : World} {b o : Nat} {v : Value} (h : w.cell? ⟨b, o, none⟩ = some v) (x0 x1 : Obj) : ((w.alloc x0).alloc x1).cell? ⟨b, o, none⟩ = some v := cell_up (cell_up h x0) _
theorem cell_up3 {w : World} {b o : Nat} {v : Value} (h : w.cell? ⟨b, o, none⟩ = some v) (x0 x1 x2 : Obj) : (((w.alloc x0).alloc x1).alloc x2).cell? ⟨b, o, none⟩ = some v := cell_up (cell_up2 h x0 x1) _
theorem cell_up4 {w : World} {b o : Nat} {v : Value} (h : w.cell? ⟨b, o, none⟩ = some v) (x0 x1 x2 x3 : Obj) : ((((w.alloc x0).alloc x1).alloc x2).alloc x3).cell? ⟨b, o, none⟩ = some v := cell_up (cell_up3 h x0 x1 x2) _
theorem cell_up5 {w : World} {b o : Nat} {v : Value} (h : w.cell? ⟨b, o, none⟩ = some v) (x0 x1 x2 x3 x4 : Obj) : (((((w.alloc x0).alloc x1).alloc x2).alloc x3).alloc x4).cell? ⟨b, o, none⟩ = some v := cell_up (cell_up4 h x0 x1 x2 x3) _
theorem cell_up6 {w : World} {b o : Nat} {v : Value} (h : w.cell? ⟨b, o, none⟩ = some v) (x0 x1 x2 x3 x4 x5 : Obj) : ((((((w.alloc x0).alloc x1).alloc x2).alloc x3).alloc x4).alloc x5).cell? ⟨b, o, none⟩ = some v := cell_up (cell_up5 h x0 x1 x2 x3 x4) _
theorem cell_up7 {w : World} {b o : Nat} {v : Value} (h : w.cell? ⟨b, o, none⟩ = some v) (x0 x1 x2 x3 x4 x5 x6 : Obj) : (((((((w.alloc x0).alloc x1).alloc x2).alloc x3).alloc x4).alloc x5).alloc x6).cell? ⟨b, o, none⟩ = some v := cell_up (cell_up6 h x0 x1 x2 x3 x4 x5) _
theorem cell_up8 {w : World} {b o : Nat} {v : Value} (h : w.cell? ⟨b, o, none⟩ = some v) (x0 x1 x2 x3 x4 x5 x6 x7 : Obj) : ((((((((w.alloc x0).alloc x1).alloc x2).alloc x3).alloc x4).alloc x5).alloc x6).alloc x7).cell? ⟨b, o, none⟩ = some v := cell_up (cell_up7 h x0 x1 x2 x3 x4 x5 x6) _
theorem cell_up9 {w : World} {b o : Nat} {v : Value} (h : w.cell? ⟨b, o, none⟩ = some v) (x0 x1 x2 x3 x4 x5 x6 x7 x8 : Obj) : (((((((((w.alloc x0).alloc x1).alloc x2).alloc x3).alloc x4).alloc x5).alloc x6).alloc x7).alloc x8).cell? ⟨b, o, none⟩ = some v := cell_up (cell_up8 h x0 x1 x2 x3 x4 x5 x6 x7) _


theorem wr_no (ex ip : Option Addr) (b off : Nat) (s : ByteArray) (r : Bool) (w : World) (hc : w.cell? ⟨b, off, none⟩ = some (.string s)) (hs : 1048576 < s.size) :
    Calls Try.prog 4 #[.pointer ex, .pointer (some ⟨b, off, none⟩), .pointer ip, .bool r] w fun e w' => e = .returned (.bool true) ∧ Below w.heap.size w w' := by
  have hs' : (1048576 : Int) < (s.size : Int) := by omega
  go_enter Try.func4, Try.ntmps4
  go_wp2
  go_ret
  exact ⟨rfl, Below.refl _ _⟩

set_option maxHeartbeats 2000000 in
theorem wr_nil_nil (ex : Option Addr) (r : Bool) (w : World) (hx : IsBoolPtr w ex) :
    Calls Try.prog 4 #[.pointer ex, .pointer none, .pointer none, .bool r] w fun e w' => e = .returned (.bool true) ∧ Below w.heap.size w w' := by
  rcases hx with rfl | ⟨bx, ox, x, rfl, hx⟩
  · cases r
    all_goals
      go_enter Try.func4, Try.ntmps4
      go_wp2
      go_ret
      exact ⟨rfl, by repeat (first | exact Below.refl _ _ | apply Below.drew | (refine Below.alloc ?_ (by first | (simp; done) | (simp; omega)) _) | (refine Below.setCell ?_ (by first | (simp; done) | (simp; omega)) _))⟩
  · have e1 := cell_up hx
    have e2 := cell_up2 hx
    have e3 := cell_up3 hx
    have e4 := cell_up4 hx
    have e5 := cell_up5 hx
    have e6 := cell_up6 hx
    have e7 := cell_up7 hx
    have e8 := cell_up8 hx
    have e9 := cell_up9 hx
    cases r <;> cases x
    all_goals
      go_enter Try.func4, Try.ntmps4
      go_wp2
      go_ret
      exact ⟨rfl, by repeat (first | exact Below.refl _ _ | apply Below.drew | (refine Below.alloc ?_ (by first | (simp; done) | (simp; omega)) _) | (refine Below.setCell ?_ (by first | (simp; done) | (simp; omega)) _))⟩

set_option maxHeartbeats 2000000 in
theorem wr_nil_some (ex : Option Addr) (ip : Addr) (r : Bool) (w : World) (hx : IsBoolPtr w ex) :
    Calls Try.prog 4 #[.pointer ex, .pointer none, .pointer (some ip), .bool r] w fun e w' => e = .returned (.bool true) ∧ Below w.heap.size w w' := by
  rcases hx with rfl | ⟨bx, ox, x, rfl, hx⟩
  · cases r
    all_goals
      go_enter Try.func4, Try.ntmps4
      go_wp2
      go_ret
      exact ⟨rfl, by repeat (first | exact Below.refl _ _ | apply Below.drew | (refine Below.alloc ?_ (by first | (simp; done) | (simp; omega)) _) | (refine Below.setCell ?_ (by first | (simp; done) | (simp; omega)) _))⟩
  · have e1 := cell_up hx
    have e2 := cell_up2 hx
    have e3 := cell_up3 hx
    have e4 := cell_up4 hx
    have e5 := cell_up5 hx
    have e6 := cell_up6 hx
    have e7 := cell_up7 hx
    have e8 := cell_up8 hx
    have e9 := cell_up9 hx
    cases r <;> cases x
    all_goals
      go_enter Try.func4, Try.ntmps4
      go_wp2
      go_ret
      exact ⟨rfl, by repeat (first | exact Below.refl _ _ | apply Below.drew | (refine Below.alloc ?_ (by first | (simp; done) | (simp; omega)) _) | (refine Below.setCell ?_ (by first | (simp; done) | (simp; omega)) _))⟩

set_option maxHeartbeats 2000000 in
theorem wr_some_nil (ip : Option Addr) (b off : Nat) (s : ByteArray) (r : Bool) (w : World) (hc : w.cell? ⟨b, off, none⟩ = some (.string s)) (hs : s.size ≤ 1048576) :
    Calls Try.prog 4 #[.pointer none, .pointer (some ⟨b, off, none⟩), .pointer ip, .bool r] w fun e w' => e = .returned (.bool true) ∧ Below w.heap.size w w' := by
  have hs' : ¬ (1048576 : Int) < (s.size : Int) := by omega
  rcases ip with _ | ip <;> cases r
  all_goals
    go_enter Try.func4, Try.ntmps4
    go_wp2
    go_ret
    exact ⟨rfl, by repeat (first | exact Below.refl _ _ | apply Below.drew | (refine Below.alloc ?_ (by first | (simp; done) | (simp; omega)) _) | (refine Below.setCell ?_ (by first | (simp; done) | (simp; omega)) _))⟩

set_option maxHeartbeats 4000000 in
theorem wr_some_some (ip : Option Addr) (bx ox : Nat) (x : Bool) (b off : Nat) (s : ByteArray) (r : Bool) (w : World) (hx : w.cell? ⟨bx, ox, none⟩ = some (.bool x)) (hc : w.cell? ⟨b, off, none⟩ = some (.string s)) (hs : s.size ≤ 1048576) :
    Calls Try.prog 4 #[.pointer (some ⟨bx, ox, none⟩), .pointer (some ⟨b, off, none⟩), .pointer ip, .bool r] w fun e w' => e = .returned (.bool true) ∧ Below w.heap.size w w' := by
  have hs' : ¬ (1048576 : Int) < (s.size : Int) := by omega
  have e1 := cell_up hx
  have e2 := cell_up2 hx
  have e3 := cell_up3 hx
  have e4 := cell_up4 hx
  have e5 := cell_up5 hx
  have e6 := cell_up6 hx
  have e7 := cell_up7 hx
  have e8 := cell_up8 hx
  have e9 := cell_up9 hx
  rcases ip with _ | ip <;> cases r <;> cases x
  all_goals
    go_enter Try.func4, Try.ntmps4
    go_wp2
    go_ret
    exact ⟨rfl, by repeat (first | exact Below.refl _ _ | apply Below.drew | (refine Below.alloc ?_ (by first | (simp; done) | (simp; omega)) _) | (refine Below.setCell ?_ (by first | (simp; done) | (simp; omega)) _))⟩
end Go.Proofs.Qxb6615586a
