/-
  zzRowValues (function 8) over Strings, and where it fails.
-/
import Derived.Test.Qxb6615609aFmtVals
import Derived.Test.Qxb6615609aFmtEndsBad
namespace Go.Proofs.Qxb6615609aFmt
open Go.RowKit

/-- Value i of a byte string at a. -/
def pvA (a : Option Addr) (c : Nat) (es : List Nat) (i : Nat) : Value := .slice (a.map fun x => ⟨x.block, x.off + endAt es ((i : Int) - 1), none⟩) (endAt es i - endAt es ((i : Int) - 1)) (c - endAt es ((i : Int) - 1))

set_option maxRecDepth 100000 in
set_option maxHeartbeats 2000000 in
theorem vals_str (B : Nat) (a : Option Addr) (n c rows : Nat) (l : List UInt8) (es : List Nat) (w : World) (hl : l.length = n) (hn : n ≤ 4398046511104) (hnc : n ≤ c) (hrows : rows ≤ 131072) (hB : B ≤ w.heap.size) (hat : At B w a n (bytesOf l)) (hes : strEnds l rows 0 = some es) :
    Calls Tryf.prog 8 #[.slice a n c, .int .i64 rows, .int .i64 0] w (Valued (pvA a c es) rows w) := by
  obtain ⟨i0, hi0, hz0, hz1, hz2⟩ := info_parts info26
  go_enter Tryf.func8, Tryf.ntmps8
  go_wp2
  go_loopw [8, 10, 11] (fun v t10 t11 wr => ∃ k p : Nat, k ≤ rows ∧ p ≤ n ∧ t11 = .int .i64 k ∧ t10 = .int .i64 p ∧ p = endAt es ((k : Int) - 1) ∧ strEnds l (rows - k) p = some (es.drop k) ∧ wr.ownsRow w.heap.size 26 1 v k ((List.range k).map (pvA a c es)) ∧ Below w.heap.size w wr) (fun _ _ t _ => rows - (intOf t).toNat)
  case atStart => exact ⟨0, 0, by omega, by omega, rfl, rfl, by simp [endAt], by simpa using hes, World.ownsRow_nil _ _ _ _, Below.refl _ _⟩
  case round =>
    obtain ⟨k, p, hk, hp, rfl, rfl, hpe, hse, hown, hbel⟩ := hrel
    have Hown := hide hown
    have Hbel := hide hbel
    clear hown
    by_cases hlt : k < rows
    · obtain ⟨m, v, hm, hd, hfit, hek, hse'⟩ := strEnds_step hlt hse
      have hdl := dec_le (l.drop p)
      rw [hd, List.length_drop] at hdl
      have hdl' : m + p ≤ n := by simp only at hdl; omega
      have hpn : p < n := by omega
      have hat' := hat.below (hbel.mono hB)
      obtain ⟨b, off, ha, hbB, hcell⟩ := hat'.addr (by omega)
      subst ha
      have hcut : ∀ j (hj : j < (l.drop p).length), wr.cell? ⟨b, off + p + j, none⟩ = some (.int .u8 ((l.drop p)[j]).toNat) := by
        intro j hj
        rw [List.length_drop] at hj
        have := cells_of_at (w := wr) (b := b) (off := off) (l := l) (fun i hi => hcell i (by omega)) (p + j) (by omega)
        rw [Nat.add_assoc, this]
        simp
      have hkk := uv16_row b (off + p) (n - p) (c - p) (l.drop p) wr (by simp [hl]) hcut
      rw [hd] at hkk
      have Hkk := hide hkk
      have hek' : endAt es (k : Int) = p + (m + v) := by
        unfold endAt
        rw [if_neg (by omega), Int.toNat_natCast, hek]
      have hpv : pvA (some ⟨b, off, none⟩) c es k = .slice (some ⟨b, off + p, none⟩) (p + m + v - p) (c - p) := by
        unfold pvA
        rw [hek', ← hpe, Nat.add_assoc]
        rfl
      have Hpv := hide hpv
      have Hse := hide hse'
      have Hek := hide hek'
      clear hse hse' hat hat' hcell hcut hkk hek hek' hpv hd hdl hpe hbel
      have t1 : ¬ (m : Int) ≤ 0 := by omega
      go_wp2_with fail
      refine Hkk.out.mono ?_
      rintro e w' ⟨rfl, rfl⟩
      go_wp2_with (at_builtin; refine wpList_append_own _ rfl _ _ 23 rfl w.heap.size 26 i0 (.slice none 0 0) 1 24 Tryf.underlying23 hi0 hz0 hz1 hz2 ?c1 ?c2 u8 k _ rfl (Hown.out.alloc _) ⟨w'.heap.size, 0, none⟩ 1 1 [Value.slice (some ⟨b, off + p, none⟩) (p + m + v - p) (c - p)] ?c4 ?c5 ?c6 ?c7 ?c8 ?c9 ?c10 ?_)
      case c1 => rfl
      case c2 => omega
      case c4 => rfl
      case c5 => rfl
      case c6 => exact one_new _ _ _
      case c7 => exact one_cell _ _ _
      case c8 => unfold maxLen; omega
      case c9 => omega
      case c10 => rw [World.size_alloc]; exact Nat.le_succ_of_le Hbel.out.size
      intro v2 w2 hown2 hgrow _
      have Hb2 := hide (below_one Hown.out Hbel.out hgrow)
      rw [← Hpv.out, range_snoc] at hown2
      have Hown2 := hide hown2
      clear hown2 hgrow
      go_wp2
      go_roundw
      case rel => exact ⟨k + 1, p + (m + v), by omega, by omega, by go_num, by go_num, by rw [← Hek.out]; congr 1; omega, Hse.out, Hown2.out, Hb2.out⟩
      case measure => simp [intOf]; omega
    · obtain rfl : k = rows := by omega
      rw [Nat.sub_self] at hse
      have hp' := strEnds_last hse
      have hne : ((p : Int) != (n : Int)) = false := by simp; omega
      clear hse hat hp' hbel
      go_wp2
      go_ret2
      exact ⟨_, rfl, Hown.out, Hbel.out⟩

set_option maxHeartbeats 2000000 in
theorem vals_fix_bad (a : Option Addr) (n c rows : Nat) (width : Int) (w : World) (hrows : rows ≤ 131072) (hw : 0 < width) (hw' : width ≤ 16384) (hfit : (n : Int) ≠ rows * width) :
    Calls Tryf.prog 8 #[.slice a n c, .int .i64 rows, .int .i64 width] w (Unread w) := by
  have hb : (rows : Int) * width ≤ 131072 * 16384 := by
    have := Int.mul_le_mul (Int.ofNat_le.2 hrows) hw' (by omega) (by omega)
    simpa using this
  have hb0 : 0 ≤ (rows : Int) * width := Int.mul_nonneg (by omega) (by omega)
  have hne : ((n : Int) != (rows : Int) * width) = true := by simpa using hfit
  have hpos : ¬ width ≤ 0 := by omega
  clear hfit
  go_enter Tryf.func8, Tryf.ntmps8
  go_wp2
  go_ret2
  exact ⟨rfl, Below.refl _ _⟩

theorem uv16_nil (a : Option Addr) (c : Nat) (w : World) : Calls Tryf.prog 16 #[.slice a 0 c] w (fun e w' => e = .returned (.tuple #[.int .u64 0, .int .i64 0]) ∧ w' = w) := uv16_empty a c w
end Go.Proofs.Qxb6615609aFmt
