/-
  zzRowValues (function 8) over bytes that are not just such Strings; both answers in one.
-/
import Derived.Test.Qxb6615609aFmtVals2
namespace Go.Proofs.Qxb6615609aFmt
open Go.RowKit

set_option maxRecDepth 100000 in
set_option maxHeartbeats 2000000 in
theorem vals_str_bad (B : Nat) (a : Option Addr) (n c rows : Nat) (l : List UInt8) (w : World) (hl : l.length = n) (hn : n ≤ 4398046511104) (hnc : n ≤ c) (hrows : rows ≤ 131072) (hB : B ≤ w.heap.size) (hat : At B w a n (bytesOf l)) (hes : strEnds l rows 0 = none) :
    Calls Tryf.prog 8 #[.slice a n c, .int .i64 rows, .int .i64 0] w (Unread w) := by
  obtain ⟨i0, hi0, hz0, hz1, hz2⟩ := info_parts info26
  go_enter Tryf.func8, Tryf.ntmps8
  go_wp2
  go_loopw [8, 10, 11] (fun v t10 t11 wr => ∃ (k p : Nat) (xs : List Value), k ≤ rows ∧ p ≤ n ∧ t11 = .int .i64 k ∧ t10 = .int .i64 p ∧ strEnds l (rows - k) p = none ∧ wr.ownsRow w.heap.size 26 1 v k xs ∧ Below w.heap.size w wr) (fun _ _ t _ => rows - (intOf t).toNat)
  case atStart => exact ⟨0, 0, [], by omega, by omega, rfl, rfl, by simpa using hes, World.ownsRow_nil _ _ _ _, Below.refl _ _⟩
  case round =>
    obtain ⟨k, p, xs, hk, hp, rfl, rfl, hse, hown, hbel⟩ := hrel
    have Hown := hide hown
    have Hbel := hide hbel
    clear hown hes
    by_cases hlt : k < rows
    · by_cases hpn : p < n
      · have hat' := hat.below (hbel.mono hB)
        obtain ⟨b, off, ha, hbB, hcell⟩ := hat'.addr (by omega)
        subst ha
        have hcut : ∀ j (hj : j < (l.drop p).length), wr.cell? ⟨b, off + p + j, none⟩ = some (.int .u8 ((l.drop p)[j]).toNat) := by
          intro j hj
          rw [List.length_drop] at hj
          have := cells_of_at (w := wr) (b := b) (off := off) (l := l) (fun i hi => hcell i (by omega)) (p + j) (by omega)
          rw [Nat.add_assoc, this]
          simp
        have hkk := uv16_row b (off + p) (n - p) (c - p) (l.drop p) wr (by simp [hl]) hcut
        rcases strEnds_none hlt hse with hneg | ⟨m, v, hm, hd, hrest⟩
        · obtain ⟨⟨v, m⟩, hd⟩ : ∃ d, Lib.uvarintDec (l.drop p) = d := ⟨_, rfl⟩
          rw [hd] at hkk hneg
          have t1 : m ≤ 0 := hneg
          have Hkk := hide hkk
          clear hse hat hat' hcell hcut hkk hd hneg hbel
          go_wp2_with fail
          refine Hkk.out.mono ?_
          rintro e w' ⟨rfl, rfl⟩
          go_wp2
          go_ret2
          exact ⟨rfl, Hbel.out⟩
        · rw [hd] at hkk
          have hdl := dec_le (l.drop p)
          rw [hd, List.length_drop] at hdl
          have hdl' : m + p ≤ n := by simp only at hdl; omega
          have t1 : ¬ (m : Int) ≤ 0 := by omega
          have Hkk := hide hkk
          rcases hrest with hover | ⟨hfit, hse'⟩
          · have hov : n < p + m + v := by omega
            clear hse hat hat' hcell hcut hkk hd hdl hover hbel
            go_wp2_with fail
            refine Hkk.out.mono ?_
            rintro e w' ⟨rfl, rfl⟩
            go_wp2
            go_ret2
            exact ⟨rfl, Hbel.out⟩
          · have Hse := hide hse'
            clear hse hat hat' hcell hcut hkk hd hdl hse' hbel
            go_wp2_with fail
            refine Hkk.out.mono ?_
            rintro e w' ⟨rfl, rfl⟩
            go_wp2_with (at_builtin; refine wpList_append_own _ rfl _ _ 23 rfl w.heap.size 26 i0 (.slice none 0 0) 1 24 Tryf.underlying23 hi0 hz0 hz1 hz2 ?c1 ?c2 u8 k _ rfl (Hown.out.alloc _) ⟨w'.heap.size, 0, none⟩ 1 1 [Value.slice (some ⟨b, off + p, none⟩) (p + m + v - p) (c - p)] ?c4 ?c5 ?c6 ?c7 ?c8 ?c9 ?c10 ?_)
            case c1 => rfl
            case c2 => omega
            case c4 => rfl
            case c5 => rfl
            case c6 => exact one_new _ _ _
            case c7 => exact one_cell _ _ _
            case c8 => unfold maxLen; omega
            case c9 => omega
            case c10 => rw [World.size_alloc]; exact Nat.le_succ_of_le Hbel.out.size
            intro v2 w2 hown2 hgrow _
            have Hb2 := hide (below_one Hown.out Hbel.out hgrow)
            have Hown2 := hide hown2
            clear hown2 hgrow
            go_wp2
            go_roundw
            case rel => exact ⟨k + 1, p + (m + v), _, by omega, by omega, by go_num, by go_num, Hse.out, Hown2.out, Hb2.out⟩
            case measure => simp [intOf]; omega
      · obtain rfl : p = n := by omega
        clear hse hat hbel
        go_wp2_with fail
        all_goals
          refine (uv16_nil _ _ wr).mono ?_
          rintro e w' ⟨rfl, rfl⟩
          go_wp2
          go_ret2
          exact ⟨rfl, Hbel.out⟩
    · obtain rfl : k = rows := by omega
      rw [Nat.sub_self] at hse
      have hp' := strEnds_none_last hse
      have hne : ((p : Int) != (n : Int)) = true := by simp; omega
      clear hse hat hp' hbel
      go_wp2
      go_ret2
      exact ⟨rfl, Hbel.out⟩

theorem valEnds_fix_end {l : List UInt8} {rows d : Nat} {es : List Nat} (hd : 0 < d) (h : valEnds l rows (d : Int) = some es) (i : Nat) (hi : i < rows) : endAt es (i : Int) = (i + 1) * d ∧ endAt es ((i : Int) - 1) = i * d := by
  unfold valEnds at h
  rw [if_pos (by omega)] at h
  split at h
  · simp only [Option.some.injEq, Int.toNat_natCast] at h
    have g : ∀ q, q < rows → es.getD q 0 = (q + 1) * d := by
      intro q hq
      rw [← h, List.getD_eq_getElem?_getD]
      simp [List.getElem?_range hq]
    refine ⟨?_, ?_⟩
    · unfold endAt
      rw [if_neg (by omega), Int.toNat_natCast, g i hi]
    · unfold endAt
      split
      · have : i = 0 := by omega
        subst this; simp
      · rw [show ((i : Int) - 1).toNat = i - 1 by omega, g (i - 1) (by omega)]
        congr 1
        omega
  · simp at h

set_option maxRecDepth 100000 in
set_option maxHeartbeats 2000000 in
theorem vals_fix0 (a : Option Addr) (c d : Nat) (w : World) (hd : 0 < d) (hd' : d ≤ 16384) (vs : Nat → Value) : Calls Tryf.prog 8 #[.slice a 0 c, .int .i64 (0 : Nat), .int .i64 d] w (Valued vs 0 w) := by
  have hdp : (0 : Int) < (d : Int) := by omega
  go_enter Tryf.func8, Tryf.ntmps8
  go_wp2
  refine wp_loop_rounds 1 ?_
  rw [rounds_succ]
  go_wp2
  go_ret2
  exact ⟨_, rfl, World.ownsRow_nil _ _ _ _, Below.refl _ _⟩

/-- zzRowValues where the bytes are just the values. -/
theorem vals8 (B : Nat) (a : Option Addr) (n c rows : Nat) (width : Int) (l : List UInt8) (es : List Nat) (w : World) (hl : l.length = n) (hn : n ≤ 1099511627776) (hnc : n ≤ c) (hrows : rows ≤ 131072) (hw : 0 ≤ width ∧ width ≤ 16384) (hB : B ≤ w.heap.size) (hat : At B w a n (bytesOf l)) (hes : valEnds l rows width = some es) :
    Calls Tryf.prog 8 #[.slice a n c, .int .i64 rows, .int .i64 width] w (Valued (pvA a c es) rows w) := by
  by_cases hp : 0 < width
  · obtain ⟨d, rfl⟩ := Int.eq_ofNat_of_zero_le hw.1
    have hd : 0 < d := by omega
    have hfit : n = rows * d := by
      unfold valEnds at hes
      rw [if_pos hp] at hes
      split at hes
      · rename_i h; rw [hl] at h; exact_mod_cast h
      · simp at hes
    rcases Nat.eq_zero_or_pos rows with h0 | h0
    · subst h0
      obtain rfl : n = 0 := by simpa using hfit
      exact vals_fix0 a c d w hd (by omega) _
    · obtain ⟨b, off, rfl, _, _⟩ := hat.addr (by rw [hfit]; exact Nat.mul_pos h0 hd)
      have h8 := vals_fix b off n c rows d w hrows hd (by omega) hfit hnc hn
      have : ∀ k, k ≤ rows → (List.range k).map (fun i => Value.slice (some ⟨b, off + i * d, none⟩) d (c - i * d)) = (List.range k).map (pvA (some ⟨b, off, none⟩) c es) := by
        intro k hk
        apply List.map_congr_left
        intro i hi
        have hi' : i < k := List.mem_range.1 hi
        obtain ⟨e1, e2⟩ := valEnds_fix_end hd hes i (by omega)
        unfold pvA
        rw [e1, e2, Nat.add_mul]
        simp
      refine h8.mono ?_
      rintro e w' ⟨v, he, hown, hb⟩
      rw [this rows (Nat.le_refl _)] at hown
      exact ⟨v, he, hown, hb⟩
  · obtain rfl : width = 0 := by omega
    have hs : strEnds l rows 0 = some es := by unfold valEnds at hes; rwa [if_neg (by omega)] at hes
    exact vals_str B a n c rows l es w hl (by omega) hnc hrows hB hat hs

/-- .. and where they are not. -/
theorem vals8_bad (B : Nat) (a : Option Addr) (n c rows : Nat) (width : Int) (l : List UInt8) (w : World) (hl : l.length = n) (hn : n ≤ 1099511627776) (hnc : n ≤ c) (hrows : rows ≤ 131072) (hw : 0 ≤ width ∧ width ≤ 16384) (hB : B ≤ w.heap.size) (hat : At B w a n (bytesOf l)) (hes : valEnds l rows width = none) :
    Calls Tryf.prog 8 #[.slice a n c, .int .i64 rows, .int .i64 width] w (Unread w) := by
  unfold valEnds at hes
  by_cases hp : 0 < width
  · rw [if_pos hp] at hes
    split at hes
    · simp at hes
    · rename_i hfit
      exact vals_fix_bad a n c rows width w hrows hp hw.2 (by rw [← hl]; exact hfit)
  · rw [if_neg hp] at hes
    obtain rfl : width = 0 := by omega
    exact vals_str_bad B a n c rows l w hl (by omega) hnc hrows hB hat hes
end Go.Proofs.Qxb6615609aFmt
