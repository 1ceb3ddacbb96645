/-
  Callees of 'FnColumnNamesListsColumnsInOrderFreshEachCall': ZZnewTableNamed (function 6).
-/
import Derived.Test.Qxb6615609aColB
import Derived.Laws.MakeOwn
import Derived.Deep.OwnRows
namespace Go.Proofs.Qxb6615609a
open Go.RowKit

theorem info39 : ((Try.prog.info? 39).bind fun i => i.zero.map fun z => (z.cells.size, i.size, i.bytes)) = some (8, 8, 112) := by kernel_rfl
theorem info9 : (Try.prog.info? 9).map (fun i => (i.zero, i.size, i.bytes)) = some (some (.string ByteArray.empty), 1, 16) := by kernel_rfl

/-- make([]column, n), make([]string, n): a new block of so many cells. -/
theorem mk34 (n : Nat) (hn : n ≤ 1048576) : ∃ C : Array Value, C.size = n * 8 ∧ ∀ w : World, (Instr.makeSlice 34 (.int .i64 (n : Int)) (.int .i64 (n : Int))).run Try.prog w = .ok (.slice (some ⟨w.heap.size, 0, none⟩) n n) (w.alloc (.cells C 39)) := by
  have hi := info39
  cases h : Try.prog.info? 39 with
  | none => simp [h] at hi
  | some i =>
    cases hz : i.zero with
    | none => simp [h, hz] at hi
    | some z =>
      simp [h, hz] at hi
      obtain ⟨h1, h2, h3⟩ := hi
      refine ⟨madeCells z.cells (n * 8), size_madeCells _ _, fun w => ?_⟩
      have hr := run_make (P := Try.prog) w 34 39 i z Try.underlying34 h hz .i64 .i64 n n (by omega) (Int.le_refl _) (by rw [h3]; omega) (by omega)
      simpa [h2] using hr
theorem mk22 (n : Nat) (hn : n ≤ 1048576) : ∃ C : Array Value, C.size = n ∧ ∀ w : World, (Instr.makeSlice 22 (.int .i64 (n : Int)) (.int .i64 (n : Int))).run Try.prog w = .ok (.slice (some ⟨w.heap.size, 0, none⟩) n n) (w.alloc (.cells C 9)) := by
  refine ⟨madeCells #[.string ByteArray.empty] n, size_madeCells _ _, fun w => ?_⟩
  exact run_make_row' (P := Try.prog) 22 9 (.string ByteArray.empty) 16 Try.underlying22 info9 rfl .i64 .i64 n (by omega) (by omega) w

/-- Behind k rounds of the loop that names the columns: block B is the row of columns. -/
structure ColsTo (w wr : World) (B : Nat) (f : Nat → ByteArray) (n k : Nat) : Prop where
  below : Below B w wr
  size : wr.heap.size = B + 1
  named : ∀ j, j < k → wr.cell? ⟨B, j * 8, none⟩ = some (.string (f j))
  there : ∀ j, j < n * 8 → ∃ v, wr.cell? ⟨B, j, none⟩ = some v
  open_ : ∀ j, j < n * 8 → wr.frozen? ⟨B, j, none⟩ = false

theorem ColsTo.start (w : World) (f : Nat → ByteArray) (n : Nat) (C : Array Value) (hC : C.size = n * 8) : ColsTo w (w.alloc (.cells C 39)) w.heap.size f n 0 where
  below := (Below.refl _ _).alloc (Nat.le_refl _) _
  size := by simp
  named := by intro j hj; omega
  there := by intro j hj; exact ⟨C[j]'(by omega), by rw [World.cell?_alloc_new]; simp [hC, hj]⟩
  open_ := by intro j hj; simp

theorem ColsTo.step {w wr : World} {B : Nat} {f : Nat → ByteArray} {n k : Nat} (h : ColsTo w wr B f n k) (hk : k < n) : ColsTo w (wr.setCell ⟨B, k * 8, none⟩ (.string (f k))) B f n (k + 1) where
  below := h.below.setCell (Nat.le_refl _) _
  size := by rw [World.size_setCell]; exact h.size
  named := by
    intro j hj
    by_cases e : j = k
    · subst e
      obtain ⟨v, hv⟩ := h.there (j * 8) (by omega)
      exact World.cell?_setCell_same _ _ _ hv
    · rw [World.cell?_setCell_other _ _ _ _ (by intro c; injection c; omega)]
      exact h.named j (by omega)
  there := by
    intro j hj
    by_cases e : j = k * 8
    · subst e
      obtain ⟨v, hv⟩ := h.there _ hj
      exact ⟨_, World.cell?_setCell_same _ _ _ hv⟩
    · rw [World.cell?_setCell_other _ _ _ _ (by intro c; injection c; omega)]
      exact h.there j hj
  open_ := by intro j hj; rw [World.frozen?_setCell]; exact h.open_ j hj

/-- What ZZnewTableNamed leaves: a pointer to a table in new memory, whose columns (n of them, in new memory) bear the names. -/
def Tabled (f : Nat → ByteArray) (n : Nat) (w : World) (e : Ending) (w' : World) : Prop :=
  e = .returned (.pointer (some ⟨w.heap.size + 1, 0, none⟩)) ∧ Below w.heap.size w w' ∧ w'.heap.size = w.heap.size + 2 ∧
  w'.cell? ⟨w.heap.size + 1, 2, none⟩ = some (.slice (some ⟨w.heap.size, 0, none⟩) n n) ∧ ∀ j, j < n → w'.cell? ⟨w.heap.size, j * 8, none⟩ = some (.string (f j))

theorem tabled_end {w wr : World} {f : Nat → ByteArray} {n k : Nat} (hc : ColsTo w wr w.heap.size f n k) (hk : n ≤ k) (v0 v1 v3 v4 v5 v6 v7 v8 v9 : Value) :
    Tabled f n w (.returned (.pointer (some ⟨wr.heap.size, 0, none⟩))) (wr.alloc (.cells #[v0, v1, .slice (some ⟨w.heap.size, 0, none⟩) n n, v3, v4, v5, v6, v7, v8, v9] 46)) := by
  have hs := hc.size
  refine ⟨by rw [hs], hc.below.alloc (by omega) _, by simp [hs], ?_, fun j hj => ?_⟩
  · rw [← hs, World.cell?_alloc_new]; rfl
  · rw [World.cell?_alloc_past _ _ _ (by omega)]; exact hc.named j (by omega)

set_option maxHeartbeats 1000000 in
theorem table6 (db nm : ByteArray) (b off n cap : Nat) (f : Nat → ByteArray) (w : World) (hn : n ≤ 1048576) (hb : 0 < n → b < w.heap.size) (hr : StrRow w b off f n) :
    Calls Try.prog 6 #[.string db, .string nm, .slice (some ⟨b, off, none⟩) n cap] w fun e w' => Tabled f n w e w' := by
  obtain ⟨C, hC, hmk⟩ := mk34 n hn
  have H0 : Hid (ColsTo w (w.alloc (.cells C 39)) w.heap.size f n 0) := ColsTo.start w f n C hC
  go_enter Try.func6, Try.ntmps6
  go_wp2
  go_loopw [14] (fun t wr => ∃ k : Nat, k ≤ n ∧ t = .int .i64 k ∧ ColsTo w wr w.heap.size f n k) (fun t _ => n - (intOf t).toNat)
  case atStart => exact ⟨0, by omega, rfl, H0.out⟩
  case round =>
    obtain ⟨k, hk, rfl, hc⟩ := hrel
    clear H0 hmk hC
    by_cases hlt : k < n
    · have hck := (hc.below.cell (p := ⟨b, off + k, none⟩) (hb (by omega))).trans (hr k hlt)
      obtain ⟨v, hv⟩ := hc.there (k * 8) (by omega)
      have hfr := hc.open_ (k * 8) (by omega)
      have hst : Hid (ColsTo w (wr.setCell ⟨w.heap.size, k * 8, none⟩ (.string (f k))) w.heap.size f n (k + 1)) := hc.step hlt
      clear hc hr
      go_wp2
      go_roundw
      case rel => exact ⟨k + 1, by omega, by go_num, hst.out⟩
      case measure => simp [intOf]; omega
    · have H : Hid (ColsTo w wr w.heap.size f n k) := hc
      clear hr hc
      go_wp2
      go_ret
      exact tabled_end H.out (by omega) _ _ _ _ _ _ _ _ _
end Go.Proofs.Qxb6615609a
