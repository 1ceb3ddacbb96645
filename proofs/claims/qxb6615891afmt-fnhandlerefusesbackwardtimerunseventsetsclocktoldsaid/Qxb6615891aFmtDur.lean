/-
  time.fmtInt (34), time.fmtFrac (33): the buffer's cells stay bytes, and the place comes back in reach.
-/
import Derived.Test.Qxb6615891aFmtErr
import Derived.Laws.BytesArg
import Derived.Laws.Bits64
namespace Go.Proofs.Qxb6615891aFmt
open Go.RowKit Go.Extern.Stop Go.Stop Go.Extern

/-- Block b holds 32 bytes that may be written; nothing below it has turned since w0. -/
structure Buf (w0 : World) (b : Nat) (w : World) : Prop where
  below : Below b w0 w
  there : ∀ j, j < 32 → ∃ z : Int, w.cell? ⟨b, j, none⟩ = some (.int .u8 z)
  open_ : ∀ j, j < 32 → w.frozen? ⟨b, j, none⟩ = false

theorem Buf.step {w0 w : World} {b j : Nat} (h : Buf w0 b w) (z : Int) : Buf w0 b (w.setCell ⟨b, j, none⟩ (.int .u8 z)) where
  below := h.below.setCell (Nat.le_refl _) _
  there := by
    intro i hi
    by_cases e : i = j
    · subst e
      obtain ⟨v, hv⟩ := h.there i hi
      exact ⟨_, World.cell?_setCell_same _ _ _ hv⟩
    · rw [World.cell?_setCell_other _ _ _ _ (by intro c; injection c; omega)]
      exact h.there i hi
  open_ := by intro i hi; rw [World.frozen?_setCell]; exact h.open_ i hi

/-- A place in lo .. hi comes back; the buffer is one still. -/
def Wrote (w0 : World) (b lo hi : Nat) (e : Ending) (w' : World) : Prop := ∃ r : Nat, e = .returned (.int .i64 r) ∧ lo ≤ r ∧ r ≤ hi ∧ Buf w0 b w'

theorem wrap_pred (r : Nat) (h : r ≤ 64) : IntKind.i64.wrap (((r + 1 : Nat) : Int) - 1) = (r : Int) := by
  rw [IntKind.wrap_i64]; omega

theorem wrap_tdiv {z : Int} (h0 : 0 ≤ z) (h1 : z < 18446744073709551616) (k : Int) (hk : 0 < k) : IntKind.u64.wrap (z.tdiv k) = z / k := by
  rw [Int.tdiv_eq_ediv_of_nonneg h0, IntKind.wrap_u64]
  have a := Int.ediv_nonneg h0 (Int.le_of_lt hk)
  have b := Int.ediv_le_self k h0
  omega

theorem pow_step {z : Int} {j : Nat} (h : z < (10 : Int) ^ (j + 1)) : z / 10 < (10 : Int) ^ j := by
  rw [Int.pow_succ] at h
  omega

set_option maxRecDepth 100000 in
set_option maxHeartbeats 1000000 in
theorem fmtInt34 (w0 : World) (b L k : Nat) (v : Int) (w : World) (hB : Buf w0 b w) (hL : L ≤ 32) (hk1 : 1 ≤ k) (hk : k ≤ L) (h0 : 0 ≤ v) (h64 : v < 18446744073709551616) (hv : v < (10 : Int) ^ k) :
    Calls Tryf.prog 34 #[.slice (some ⟨b, 0, none⟩) L 32, .int .u64 v] w (Wrote w0 b (L - k) L) := by
  have HB := hide hB
  have Hv := hide hv
  clear hB hv
  obtain ⟨L', rfl⟩ : ∃ L', L = L' + 1 := ⟨L - 1, by omega⟩
  have hsub : IntKind.i64.wrap (((L' + 1 : Nat) : Int) - 1) = (L' : Int) := by
    exact wrap_pred L' (by omega)
  by_cases hz : v = 0
  · subst hz
    obtain ⟨z, hc⟩ := HB.out.there L' (by omega)
    have hf := HB.out.open_ L' (by omega)
    go_enter Tryf.func34, Tryf.ntmps34
    go_wp2
    go_ret
    exact ⟨L', rfl, by omega, by omega, HB.out.step _⟩
  · have hzz : (v == 0) = false := by simpa using hz
    go_enter Tryf.func34, Tryf.ntmps34
    go_wp2
    go_loopw [1, 5] (fun t1 t5 wr => ∃ (z : Int) (j r : Nat), t1 = .int .u64 z ∧ t5 = .int .i64 r ∧ 0 ≤ z ∧ z ≤ v ∧ z < (10 : Int) ^ j ∧ (L' + 1 - k) + j ≤ r ∧ r ≤ L' + 1 ∧ Buf w0 b wr)
      (fun t1 _ _ => (intOf t1).toNat)
    case atStart => exact ⟨v, k, L' + 1, rfl, rfl, h0, Int.le_refl _, Hv.out, by omega, by omega, HB.out⟩
    case round =>
      obtain ⟨z, j, r, rfl, rfl, hz0, hzv, hzj, hjr, hrl, hb⟩ := hrel
      have Hb := hide hb
      clear hb HB
      by_cases hzp : 0 < z
      · obtain ⟨j', rfl⟩ : ∃ j', j = j' + 1 := by
          cases j with
          | zero => simp at hzj; omega
          | succ j' => exact ⟨j', rfl⟩
        obtain ⟨r', rfl⟩ : ∃ r', r = r' + 1 := ⟨r - 1, by omega⟩
        have hsub' : IntKind.i64.wrap (((r' + 1 : Nat) : Int) - 1) = (r' : Int) := wrap_pred r' (by omega)
        have hq := wrap_tdiv hz0 (by omega) 10 (by omega)
        obtain ⟨x, hc⟩ := Hb.out.there r' (by omega)
        have hf := Hb.out.open_ r' (by omega)
        have hp := hide (pow_step hzj)
        have hj' := hide hjr
        clear hzj hjr
        go_wp2
        go_roundw
        case rel =>
          have hp := hp.out
          have hj' := hj'.out
          exact ⟨z / 10, j', r', rfl, rfl, by omega, by omega, hp, by omega, by omega, Hb.out.step _⟩
        case measure => simp [intOf]; omega
      · go_wp2
        go_ret
        exact ⟨r, rfl, by omega, hrl, Hb.out⟩

/-- .. and the value without its last digits. -/
def Frac (w0 : World) (b lo hi : Nat) (q : Int) (e : Ending) (w' : World) : Prop := ∃ r : Nat, e = .returned (.tuple #[.int .i64 r, .int .u64 q]) ∧ lo ≤ r ∧ r ≤ hi ∧ Buf w0 b w'

theorem div_step (v : Int) (i : Nat) : v / (10 : Int) ^ i / 10 = v / (10 : Int) ^ (i + 1) := by
  rw [Int.pow_succ, Int.ediv_ediv_of_nonneg (Int.le_of_lt (Int.pow_pos (by omega)))]

set_option maxRecDepth 100000 in
set_option maxHeartbeats 1000000 in
theorem fmtFrac33 (w0 : World) (b L prec : Nat) (v : Int) (w : World) (hB : Buf w0 b w) (hL : L ≤ 32) (hk : prec + 1 ≤ L) (h0 : 0 ≤ v) (h64 : v < 18446744073709551616) :
    Calls Tryf.prog 33 #[.slice (some ⟨b, 0, none⟩) L 32, .int .u64 v, .int .i64 prec] w (Frac w0 b (L - prec - 1) L (v / (10 : Int) ^ prec)) := by
  have HB := hide hB
  clear hB
  go_enter Tryf.func33, Tryf.ntmps33
  go_wp2
  go_loopw [1, 8, 9, 10] (fun t1 t8 t9 t10 wr => ∃ (z : Int) (i r : Nat) (p : Bool), t1 = .int .u64 z ∧ t8 = .int .i64 r ∧ t9 = .bool p ∧ t10 = .int .i64 i ∧ 0 ≤ z ∧ z ≤ v ∧ z = v / (10 : Int) ^ i ∧ i ≤ prec ∧ L ≤ r + i ∧ r ≤ L ∧ Buf w0 b wr)
    (fun _ _ _ t10 _ => prec - (intOf t10).toNat)
  case atStart => exact ⟨v, 0, L, false, rfl, rfl, rfl, rfl, h0, Int.le_refl _, by simp, by omega, by omega, by omega, HB.out⟩
  case round =>
    obtain ⟨z, i, r, p, rfl, rfl, rfl, rfl, hz0, hzv, hz, hi, hr, hrl, hb⟩ := hrel
    have Hb := hide hb
    have Hz := hide hz
    clear hb HB hz
    obtain ⟨r', rfl⟩ : ∃ r', r = r' + 1 := ⟨r - 1, by omega⟩
    have hsub' := wrap_pred r' (by omega)
    obtain ⟨x, hc⟩ := Hb.out.there r' (by omega)
    have hf := Hb.out.open_ r' (by omega)
    by_cases hip : i < prec
    · have hq := wrap_tdiv hz0 (by omega) 10 (by omega)
      have hn := hide (show z / 10 = v / (10 : Int) ^ (i + 1) by rw [Hz.out]; exact div_step v i)
      cases p
      · by_cases hd : z % 10 = 0
        · go_wp2
          go_roundw
          case rel => exact ⟨z / 10, i + 1, r' + 1, _, rfl, rfl, rfl, by go_num, by omega, by omega, hn.out, by omega, by omega, by omega, Hb.out⟩
          case measure => simp [intOf]; omega
        · go_wp2
          go_roundw
          case rel => exact ⟨z / 10, i + 1, r', _, rfl, rfl, rfl, by go_num, by omega, by omega, hn.out, by omega, by omega, by omega, Hb.out.step _⟩
          case measure => simp [intOf]; omega
      · go_wp2
        go_roundw
        case rel => exact ⟨z / 10, i + 1, r', _, rfl, rfl, rfl, by go_num, by omega, by omega, hn.out, by omega, by omega, by omega, Hb.out.step _⟩
        case measure => simp [intOf]; omega
    · obtain rfl : i = prec := by omega
      cases p
      · go_wp2
        go_ret2
        obtain rfl := Hz.out
        exact ⟨r' + 1, rfl, by omega, by omega, Hb.out⟩
      · go_wp2
        go_ret2
        obtain rfl := Hz.out
        exact ⟨r', rfl, by omega, by omega, Hb.out.step _⟩
end Go.Proofs.Qxb6615891aFmt
