/-
  Callees of 'FnColumnNamesListsColumnsInOrderFreshEachCall': (*Table).ColumnNames (function 7).
-/
import Derived.Test.Qxb6615609aColC
namespace Go.Proofs.Qxb6615609a
open Go.RowKit

/-- Behind k rounds of the loop that copies the names: block B is the row of names. -/
structure NamesTo (w wr : World) (B : Nat) (f : Nat → ByteArray) (n k : Nat) : Prop where
  below : Below B w wr
  size : wr.heap.size = B + 1
  named : ∀ j, j < k → wr.cell? ⟨B, j, none⟩ = some (.string (f j))
  there : ∀ j, j < n → ∃ v, wr.cell? ⟨B, j, none⟩ = some v
  open_ : ∀ j, j < n → wr.frozen? ⟨B, j, none⟩ = false

theorem NamesTo.start (w : World) (f : Nat → ByteArray) (n : Nat) (C : Array Value) (hC : C.size = n) : NamesTo w (w.alloc (.cells C 9)) w.heap.size f n 0 where
  below := (Below.refl _ _).alloc (Nat.le_refl _) _
  size := by simp
  named := by intro j hj; omega
  there := by intro j hj; exact ⟨C[j]'(by omega), by rw [World.cell?_alloc_new]; simp [hC, hj]⟩
  open_ := by intro j hj; simp

theorem NamesTo.step {w wr : World} {B : Nat} {f : Nat → ByteArray} {n k : Nat} (h : NamesTo w wr B f n k) (hk : k < n) : NamesTo w (wr.setCell ⟨B, k, none⟩ (.string (f k))) B f n (k + 1) where
  below := h.below.setCell (Nat.le_refl _) _
  size := by rw [World.size_setCell]; exact h.size
  named := by
    intro j hj
    by_cases e : j = k
    · subst e
      obtain ⟨v, hv⟩ := h.there j (by omega)
      exact World.cell?_setCell_same _ _ _ hv
    · rw [World.cell?_setCell_other _ _ _ _ (by intro c; injection c; omega)]
      exact h.named j (by omega)
  there := by
    intro j hj
    by_cases e : j = k
    · subst e
      obtain ⟨v, hv⟩ := h.there _ hj
      exact ⟨_, World.cell?_setCell_same _ _ _ hv⟩
    · rw [World.cell?_setCell_other _ _ _ _ (by intro c; injection c; omega)]
      exact h.there j hj
  open_ := by intro j hj; rw [World.frozen?_setCell]; exact h.open_ j hj

/-- What ColumnNames leaves: a new slice of the n names. -/
def Listed (f : Nat → ByteArray) (n : Nat) (w : World) (e : Ending) (w' : World) : Prop :=
  e = .returned (.slice (some ⟨w.heap.size, 0, none⟩) n n) ∧ NamesTo w w' w.heap.size f n n

set_option maxHeartbeats 1000000 in
theorem names7 (t bc n : Nat) (f : Nat → ByteArray) (w : World) (hn : n ≤ 1048576) (hbt : t < w.heap.size) (hbc : bc < w.heap.size)
    (ht : w.cell? ⟨t, 2, none⟩ = some (.slice (some ⟨bc, 0, none⟩) n n)) (hr : ∀ j, j < n → w.cell? ⟨bc, j * 8, none⟩ = some (.string (f j))) :
    Calls Try.prog 7 #[.pointer (some ⟨t, 0, none⟩)] w fun e w' => Listed f n w e w' := by
  obtain ⟨C, hC, hmk⟩ := mk22 n hn
  have H0 : Hid (NamesTo w (w.alloc (.cells C 9)) w.heap.size f n 0) := NamesTo.start w f n C hC
  go_enter Try.func7, Try.ntmps7
  go_wp2
  go_loopw [16] (fun t wr => ∃ k : Nat, k ≤ n ∧ t = .int .i64 k ∧ NamesTo w wr w.heap.size f n k) (fun t _ => n - (intOf t).toNat)
  case atStart => exact ⟨0, by omega, rfl, H0.out⟩
  case round =>
    obtain ⟨k, hk, rfl, hc⟩ := hrel
    clear H0 hmk hC
    by_cases hlt : k < n
    · have ht' := (hc.below.cell (p := ⟨t, 2, none⟩) hbt).trans ht
      have hck := (hc.below.cell (p := ⟨bc, k * 8, none⟩) hbc).trans (hr k hlt)
      obtain ⟨v, hv⟩ := hc.there k (by omega)
      have hfr := hc.open_ k (by omega)
      have hst : Hid (NamesTo w (wr.setCell ⟨w.heap.size, k, none⟩ (.string (f k))) w.heap.size f n (k + 1)) := hc.step hlt
      clear hc hr ht
      go_wp2
      go_roundw
      case rel => exact ⟨k + 1, by omega, by go_num, hst.out⟩
      case measure => simp [intOf]; omega
    · obtain rfl : k = n := by omega
      have H : Hid (NamesTo w wr w.heap.size f k k) := hc
      clear hr hc ht
      go_wp2
      go_ret
      exact ⟨rfl, H.out⟩
end Go.Proofs.Qxb6615609a
