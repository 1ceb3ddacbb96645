/-
  The law 'FnColumnNamesListsColumnsInOrderFreshEachCall' (function 3) at a nil slice of names.
-/
import Derived.Test.Qxb6615609aColE
namespace Go.Proofs.Qxb6615609a
open Go.RowKit

set_option maxHeartbeats 1000000 in
theorem table6_nil (db nm : ByteArray) (cap : Nat) (f : Nat → ByteArray) (w : World) :
    Calls Try.prog 6 #[.string db, .string nm, .slice none 0 cap] w fun e w' => Tabled f 0 w e w' := by
  obtain ⟨C, hC, hmk⟩ := mk34 0 (by omega)
  have H0 : Hid (ColsTo w (w.alloc (.cells C 39)) w.heap.size f 0 0) := ColsTo.start w f 0 C hC
  simp only [Int.natCast_zero] at hmk
  go_enter Try.func6, Try.ntmps6
  go_wp2
  go_loopw [14] (fun t wr => t = .int .i64 0 ∧ ColsTo w wr w.heap.size f 0 0) (fun _ _ => 0)
  case atStart => exact ⟨rfl, H0.out⟩
  case round =>
    obtain ⟨rfl, hc⟩ := hrel
    have H : Hid (ColsTo w wr w.heap.size f 0 0) := hc
    clear H0 hmk hC hc
    go_wp2
    go_ret
    exact tabled_end H.out (by omega) _ _ _ _ _ _ _ _ _

set_option maxHeartbeats 2000000 in
theorem law3_nil (db nm : ByteArray) (cap : Nat) (w : World) (h0 : db.size ≤ maxLen) (h1 : nm.size ≤ maxLen) :
    Calls Try.prog 3 #[.string db, .string nm, .slice none 0 cap] w fun e w' => Held w e w' := by
  go_enter Try.func3, Try.ntmps3
  go_wp2_with fail
  refine (guard5_empty db nm none cap _ h0 h1).mono ?_
  rintro e w' ⟨g, rfl, rfl, hg⟩
  cases g
  · go_wp2
    go_ret
    exact ⟨rfl, Below.refl _ _⟩
  have hsum := hg rfl
  clear hg h0 h1
  have i0 : ¬ (1048576 : Int) < db.size := by omega
  have i1 : ¬ (1048576 : Int) < nm.size := by omega
  have i2 : ¬ (1048576 : Int) < db.size + nm.size := by omega
  have hnil := run_neq_slice_nil_any (P := Try.prog) w' 22 9 none 0 cap 0 0 Try.underlying22
  go_wp2
  go_loop [8, 9] (fun z i => i = .int .i64 0) (fun _ _ => 0)
  case atStart => rfl
  case round =>
    clear hnil
    subst hrel
    go_wp2_with fail
    refine (table6_nil db nm cap (fun _ => ByteArray.empty) _).mono ?_
    rintro e w2 ⟨rfl, hb2, hs2, hc2, hn2⟩
    have hw2 : w'.heap.size + 1 < w2.heap.size := by omega
    have hbB2 : Hid (Below w'.heap.size w' w2) := hb2
    clear hs2 hb2
    go_wp2_with fail
    refine (names7 (w'.heap.size + 1) w'.heap.size 0 (fun _ => ByteArray.empty) w2 (by omega) (by omega) (by omega) hc2 hn2).mono ?_
    rintro e w3 ⟨rfl, h3⟩
    have hw3 : w2.heap.size < w3.heap.size := by have := h3.size; omega
    have hc3 := (h3.below.cell (p := ⟨w'.heap.size + 1, 2, none⟩) (by show w'.heap.size + 1 < _; omega)).trans hc2
    have hbB3 : Hid (Below w'.heap.size w' w3) := hbB2.out.trans (h3.below.mono (by omega))
    clear h3 hc2 hn2 hbB2
    go_wp2_with fail
    refine (same8_empty _ _ _ _ w3).mono ?_
    rintro e w4 ⟨rfl, m, rfl⟩
    go_wp2
    go_loop [12] (fun i => i = .int .i64 0) (fun _ => 0)
    case atStart => rfl
    case round =>
      subst hrel
      go_wp2_with fail
      refine (names7 (w'.heap.size + 1) w'.heap.size 0 (fun _ => ByteArray.empty) (w3.drewN m) (by omega) (by show _ < w3.heap.size; omega) (by show _ < w3.heap.size; omega) hc3 (by intro j hj; omega)).mono ?_
      rintro e w6 ⟨rfl, h6⟩
      have hbB6 : Hid (Below w'.heap.size w' w6) := hbB3.out.trans ((show Below w'.heap.size w3 (w3.drewN m) from ⟨rfl, rfl, rfl, Nat.le_refl _, fun _ _ => rfl⟩).trans (h6.below.mono (by show _ ≤ w3.heap.size; omega)))
      clear h6 hbB3
      go_wp2_with fail
      refine (same8_empty _ _ _ _ w6).mono ?_
      rintro e w7 ⟨rfl, m', rfl⟩
      go_wp2
      go_ret
      exact ⟨rfl, hbB6.out.trans ⟨rfl, rfl, rfl, Nat.le_refl _, fun _ _ => rfl⟩⟩
end Go.Proofs.Qxb6615609a
