/-
  zzConfig (function 8) and New (function 7).
-/
import Derived.Test.Qxb6615891aFmtErr
import Derived.Laws.EntriesVeiled
namespace Go.Proofs.Qxb6615891aFmt
open Go.RowKit Go.Extern.Stop Go.Stop Go.Extern

/-- The call hands back v; nothing that was there has turned. -/
def Made (v : Value) (w : World) (e : Ending) (w' : World) : Prop := e = .returned v ∧ Below w.heap.size w w'

/-- The configuration but for its mode. -/
def cfg (m : Int) : Array Value := #[.int .i64 15000000000, .int .i64 m, .int .i64 1, .int .i64 5, .int .i64 0, .int .i64 10000000000, .int .i64 900000000000, .int .i64 3600000000000, .bool false, .int .i64 2, .int .i64 1, .bool false, .func (.func 27) #[] #[]]

/-- .. ahead of its function. -/
def cfg0 (m : Int) : Array Value := #[.int .i64 15000000000, .int .i64 m, .int .i64 1, .int .i64 5, .int .i64 0, .int .i64 10000000000, .int .i64 900000000000, .int .i64 3600000000000, .bool false, .int .i64 2, .int .i64 1, .bool false, .nilFunc]

/-- The call hands back v; the heap has grown by two blocks. -/
def Two (v : Value) (w : World) (e : Ending) (w' : World) : Prop := e = .returned v ∧ ∃ c1 c2 : Array Value, w' = (w.alloc (.cells c1 32)).alloc (.cells c2 32)

set_option maxHeartbeats 1000000 in
theorem noop19 (m : Int) (w : World) : Calls Tryf.prog 19 #[.agg (cfg0 m)] w (Two (.agg (cfg m)) w) := by
  unfold cfg0
  have hfin : Hid (∀ c1 c2 : Array Value, Two (.agg (cfg m)) w (.returned (.agg (cfg m))) ((w.alloc (.cells c1 32)).alloc (.cells c2 32))) := fun _ _ => ⟨rfl, _, _, rfl⟩
  go_enter Tryf.func19, Tryf.ntmps19
  go_wp2
  exact bodyPost_ret (v := .agg (cfg m)) (by simp [results, Tryf.results19, go_sem, cfg]) rfl (hfin.out _ _)

set_option maxHeartbeats 1000000 in
theorem config8 (m : Int) (w : World) : Calls Tryf.prog 8 #[.int .i64 m] w (Made (.agg (cfg m)) w) := by
  have hfin : Hid (∀ w' : World, Below w.heap.size w w' → Made (.agg (cfg m)) w (.returned (.agg (cfg m))) w') := fun w' h => ⟨rfl, h⟩
  go_enter Tryf.func8, Tryf.ntmps8
  go_wp2_with fail
  refine (noop19 m _).mono ?_
  rintro e w1 ⟨rfl, c1, c2, rfl⟩
  unfold cfg
  go_wp2
  exact bodyPost_ret (v := .agg (cfg m)) (by simp [results, Tryf.results8, go_sem, cfg]) rfl (hfin.out _ (((((Below.refl _ _).alloc (Nat.le_refl _) _).alloc (by simp) _).alloc (by simp; omega) _).alloc (by simp; omega) _))

end Go.Proofs.Qxb6615891aFmt
