/-
  The law on known (function 3).
-/
import Derived.Test.Qxb6615891aFmtNew2
namespace Go.Proofs.Qxb6615891aFmt
open Go.RowKit Go.Extern.Stop Go.Stop Go.Extern

/-- The law says true; nothing that was there has turned. -/
def Yes (w : World) (e : Ending) (w' : World) : Prop := e = .returned (.bool true) ∧ Below w.heap.size w w'

theorem newW_below (m : Int) (w : World) : Below w.heap.size w (newW m w) := by
  unfold newW
  exact (((((((((((Below.refl _ _).alloc (Nat.le_refl _) _).alloc (by simp) _).alloc (by simp; omega) _).alloc (by simp; omega) _).alloc (by simp; omega) _).alloc (by simp; omega) _).alloc (by simp; omega) _).alloc (by simp; omega) _).alloc (by simp; omega) _).alloc (by simp; omega) _)

set_option maxHeartbeats 2000000 in
theorem know3_0 (w : World) : Calls Tryf.prog 3 #[.int .i64 0] w (Yes w) := by
  have hk6 : ∀ w, Calls Tryf.prog 6 #[.int .i64 0] w (Knows true w) := by
    intro w
    go_enter Tryf.func6, Tryf.ntmps6
    go_wp2
    go_ret
    exact ⟨rfl, rfl⟩
  have hk := hide hk6
  clear hk6
  go_enter Tryf.func3, Tryf.ntmps3
  go_wp2_with (first
    | (go_at_call 6; refine (hk.out _).mono ?_; rintro e w' ⟨rfl, rfl⟩)
    | (go_at_call 8; refine (config8 0 _).mono ?_))
  rintro e w1 ⟨rfl, hb1⟩
  have Hb1 := hide hb1
  clear hb1
  go_wp2_with (go_at_call 7; refine (new7_0 _).mono ?_; rintro e w' ⟨rfl, rfl⟩)
  all_goals try (go_ret; exact ⟨rfl, Hb1.out.trans ((newW_below 0 w1).mono Hb1.out.size)⟩)

set_option maxHeartbeats 2000000 in
theorem know3_1 (w : World) : Calls Tryf.prog 3 #[.int .i64 1] w (Yes w) := by
  have hk6 : ∀ w, Calls Tryf.prog 6 #[.int .i64 1] w (Knows true w) := by
    intro w
    go_enter Tryf.func6, Tryf.ntmps6
    go_wp2
    go_ret
    exact ⟨rfl, rfl⟩
  have hk := hide hk6
  clear hk6
  go_enter Tryf.func3, Tryf.ntmps3
  go_wp2_with (first
    | (go_at_call 6; refine (hk.out _).mono ?_; rintro e w' ⟨rfl, rfl⟩)
    | (go_at_call 8; refine (config8 1 _).mono ?_))
  rintro e w1 ⟨rfl, hb1⟩
  have Hb1 := hide hb1
  clear hb1
  go_wp2_with (go_at_call 7; refine (new7_1 _).mono ?_; rintro e w' ⟨rfl, rfl⟩)
  all_goals try (go_ret; exact ⟨rfl, Hb1.out.trans ((newW_below 1 w1).mono Hb1.out.size)⟩)

set_option maxHeartbeats 2000000 in
theorem know3_bad (F : Interp) (m : Int) (w : World) (hF : F.answers w.tape) (h0 : (m == 0) = false) (h1 : (m == 1) = false) : Calls Tryf.prog 3 #[.int .i64 m] w (Yes w) := by
  have hk6 : ∀ w, Calls Tryf.prog 6 #[.int .i64 m] w (Knows false w) := by
    intro w
    go_enter Tryf.func6, Tryf.ntmps6
    go_wp2
    go_ret
    exact ⟨rfl, rfl⟩
  have hk := hide hk6
  clear hk6
  go_enter Tryf.func3, Tryf.ntmps3
  go_wp2_with (first
    | (go_at_call 6; refine (hk.out _).mono ?_; rintro e w' ⟨rfl, rfl⟩)
    | (go_at_call 8; refine (config8 m _).mono ?_))
  rintro e w1 ⟨rfl, hb1⟩
  have hF1 : Hid (F.answers w1.tape) := hide (by rw [hb1.tape]; exact hF)
  have Hb1 := hide hb1
  clear hb1
  go_wp2_with (go_at_call 7; refine (new7_bad F m _ hF1.out h0 h1).mono ?_; rintro e w' ⟨t, a, rfl, hx⟩; have Hx := hide hx; clear hx)
  all_goals try (go_ret; exact ⟨rfl, Hb1.out.trans (Hx.out.mono Hb1.out.size)⟩)

theorem know3 (F : Interp) (m : Int) (w : World) (hF : F.answers w.tape) : Calls Tryf.prog 3 #[.int .i64 m] w (Yes w) := by
  by_cases h0 : m = 0
  · subst h0; exact know3_0 w
  · by_cases h1 : m = 1
    · subst h1; exact know3_1 w
    · exact know3_bad F m w hF (by simpa using h0) (by simpa using h1)
end Go.Proofs.Qxb6615891aFmt
