/-
  New (function 7): at the two modes it knows, and at every other.
-/
import Derived.Test.Qxb6615891aFmtNew
namespace Go.Proofs.Qxb6615891aFmt
open Go.RowKit Go.Extern.Stop Go.Stop Go.Extern

/-- A new engine's cells; n is the heap's size ahead of New. -/
def engCells (m : Int) (n : Nat) : Array Value := #[.int .i64 15000000000, .int .i64 m, .int .i64 1, .int .i64 5, .int .i64 0, .int .i64 10000000000, .int .i64 900000000000, .int .i64 3600000000000, .bool false, .int .i64 2, .int .i64 1, .bool false, .func (.func 27) #[] #[], .int .i64 0,
  .map (some (n + 1)), .map (some (n + 1 + 1)), .map (some (n + 1 + 1 + 1)), .map (some (n + 1 + 1 + 1 + 1)), .map (some (n + 1 + 1 + 1 + 1 + 1)), .map (some (n + 1 + 1 + 1 + 1 + 1 + 1)), .map (some (n + 1 + 1 + 1 + 1 + 1 + 1 + 1)), .map (some (n + 1 + 1 + 1 + 1 + 1 + 1 + 1 + 1)), .slice none 0 0, .int .u64 0]

/-- The world behind New. -/
def newW (m : Int) (w : World) : World := (((((((((w.alloc (.cells (cfg m) 32)).alloc (.map #[] 0)).alloc (.map #[] 0)).alloc (.map #[] 0)).alloc (.map #[] 0)).alloc (.map #[] 0)).alloc (.map #[] 0)).alloc (.map #[] 0)).alloc (.map #[] 0)).alloc (.cells (engCells m w.heap.size) 57)

/-- New hands back a new engine and nil. -/
def Newed (m : Int) (w : World) (e : Ending) (w' : World) : Prop := e = .returned (.tuple #[.pointer (some ⟨w.heap.size + 1 + 1 + 1 + 1 + 1 + 1 + 1 + 1 + 1, 0, none⟩), .nilIface]) ∧ w' = newW m w

/-- New hands back nil and an error. -/
def Refused (w : World) (e : Ending) (w' : World) : Prop := ∃ t a, e = .returned (.tuple #[.pointer none, .iface t (.pointer (some a))]) ∧ Below w.heap.size w w'

set_option maxRecDepth 100000 in
theorem fn_nil (w : World) : Sem.run Tryf.prog (binOp .eql 30 (.func (.func 27) #[] #[]) .nilFunc) w = .ok (.bool false) w := by
  first | rfl | simp [binOp]

theorem newed_of (m : Int) (w : World) : Newed m w (.returned (.tuple #[.pointer (some ⟨w.heap.size + 1 + 1 + 1 + 1 + 1 + 1 + 1 + 1 + 1, 0, none⟩), .nilIface])) (newW m w) := ⟨rfl, rfl⟩

set_option maxRecDepth 100000 in
set_option maxHeartbeats 4000000 in
theorem new7_0 (w : World) : Calls Tryf.prog 7 #[.agg (cfg 0)] w (Newed 0 w) := by
  have hmm := @run_makeMap Tryf.prog
  have hfn := fn_nil
  unfold cfg
  go_enter Tryf.func7, Tryf.ntmps7
  go_wp2
  go_ret2
  exact newed_of 0 w

set_option maxRecDepth 100000 in
set_option maxHeartbeats 4000000 in
theorem new7_1 (w : World) : Calls Tryf.prog 7 #[.agg (cfg 1)] w (Newed 1 w) := by
  have hmm := @run_makeMap Tryf.prog
  have hfn := fn_nil
  unfold cfg
  go_enter Tryf.func7, Tryf.ntmps7
  go_wp2
  go_ret2
  exact newed_of 1 w

/-- known's answer. -/
def Knows (b : Bool) (w : World) (e : Ending) (w' : World) : Prop := e = .returned (.bool b) ∧ w' = w

set_option maxHeartbeats 1000000 in
theorem known16_bad (m : Int) (w : World) (h0 : (m == 0) = false) (h1 : (m == 1) = false) : Calls Tryf.prog 16 #[.int .i64 m] w (Knows false w) := by
  go_enter Tryf.func16, Tryf.ntmps16
  go_wp2
  go_ret
  exact ⟨rfl, rfl⟩

set_option maxRecDepth 100000 in
set_option maxHeartbeats 4000000 in
theorem new7_bad (F : Interp) (m : Int) (w : World) (hF : F.answers w.tape) (h0 : (m == 0) = false) (h1 : (m == 1) = false) : Calls Tryf.prog 7 #[.agg (cfg m)] w (Refused w) := by
  have hfn := fn_nil
  unfold cfg
  go_enter Tryf.func7, Tryf.ntmps7
  go_wp2_with (first
    | (go_at_call 16; refine (known16_bad m _ h0 h1).mono ?_; rintro e w' ⟨rfl, rfl⟩)
    | (go_at_call 17; refine (errMode F m _ _ (by exact hF) h0 h1 ?hb ?hc).mono ?_))
  case hb => simp
  case hc => go_simp
  rintro e w1 ⟨t, a, rfl, hx⟩
  simp only [World.size_alloc] at hx
  have Hx := hide hx
  clear hx
  go_wp2
  go_ret2
  exact ⟨t, a, rfl, ((((Below.refl _ _).alloc (Nat.le_refl _) _).alloc (by simp) _).trans (Hx.out.mono (by omega)))⟩
end Go.Proofs.Qxb6615891aFmt
