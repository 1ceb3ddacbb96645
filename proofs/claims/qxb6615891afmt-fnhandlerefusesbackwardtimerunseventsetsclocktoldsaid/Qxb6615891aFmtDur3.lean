/-
  (time.Duration).format (30) from a second on, and String (25).
-/
import Derived.Test.Qxb6615891aFmtDur2
namespace Go.Proofs.Qxb6615891aFmt
open Go.RowKit Go.Extern.Stop Go.Stop Go.Extern

set_option maxRecDepth 100000 in
set_option maxHeartbeats 4000000 in
theorem format_great (w0 : World) (b : Nat) (d u : Int) (w : World) (hB : Buf w0 b w) (ha : Abs d u) (h9 : 1000000000 ≤ u) (hu9 : u ≤ 9223372036854775808) :
    Calls Tryf.prog 30 #[.int .i64 d, .pointer (some ⟨b, 0, none⟩)] w (Wrote w0 b 0 31) := by
  have HB := hide hB
  obtain ⟨x31, c31⟩ := hB.there 31 (by omega)
  have f31 := hB.open_ 31 (by omega)
  clear hB
  obtain ⟨q, hq, hq1, hq2⟩ : ∃ q, u / (10 : Int) ^ 9 = q ∧ 0 < q ∧ q < 9223372037 := ⟨u / 1000000000, by simp, by omega, by omega⟩
  have hq60 := wrap_tdiv (z := q) (by omega) (by omega) 60 (by omega)
  obtain ⟨m, hm⟩ : ∃ m, m = q / 60 := ⟨_, rfl⟩
  rw [← hm] at hq60
  have hm60 := wrap_tdiv (z := m) (by omega) (by omega) 60 (by omega)
  obtain ⟨h, hh⟩ : ∃ h, h = m / 60 := ⟨_, rfl⟩
  rw [← hh] at hm60
  have hh1 : h < 10000000 := by omega
  have hm0 : 0 ≤ m := by omega
  have hh0 : 0 ≤ h := by omega
  obtain ⟨q6, hq6⟩ : ∃ q6, q6 = q % 60 := ⟨_, rfl⟩
  have hq61 : 0 ≤ q6 ∧ q6 < 60 := by omega
  obtain ⟨m6, hm6⟩ : ∃ m6, m6 = m % 60 := ⟨_, rfl⟩
  have hm61 : 0 ≤ m6 ∧ m6 < 60 := by omega
  have Hm := hide hm
  have Hh := hide hh
  clear hm hh
  rcases ha with ⟨hn, U, hU, hu⟩ | ⟨hn, hu⟩
  all_goals
    go_enter Tryf.func30, Tryf.ntmps30
    go_wp2_with fail
    refine (fracQ w0 b 31 9 u q _ (HB.out.step _) (by omega) (by omega) (by omega) (by omega) hq).mono ?_
    rintro e w1 ⟨r1, rfl, lo1, hi1, hb1⟩
    have Hb1 := hide hb1
    have hsl := sl80 b r1 (by omega)
    clear hb1 c31 f31
    go_wp2_with fail
    rw [← hq6]
    refine (fmtInt34 w0 b r1 2 q6 w1 Hb1.out (by omega) (by omega) (by omega) (by omega) (by omega) (by omega)).mono ?_
    rintro e w2 ⟨r2, rfl, lo2, hi2, hb2⟩
    obtain ⟨r2', rfl⟩ : ∃ r2', r2 = r2' + 1 := ⟨r2 - 1, by omega⟩
    have hs2 := wrap_pred r2' (by omega)
    obtain ⟨x2, c2⟩ := hb2.there r2' (by omega)
    have f2 := hb2.open_ r2' (by omega)
    have Hb2 := hide hb2
    clear hb2
    by_cases hmp : 0 < m
    · have hsl2 := sl80 b r2' (by omega)
      go_wp2_with fail
      rw [← hm6]
      refine (fmtInt34 w0 b r2' 2 m6 _ (Hb2.out.step _) (by omega) (by omega) (by omega) (by omega) (by omega) (by omega)).mono ?_
      rintro e w3 ⟨r3, rfl, lo3, hi3, hb3⟩
      obtain ⟨r3', rfl⟩ : ∃ r3', r3 = r3' + 1 := ⟨r3 - 1, by omega⟩
      have hs3 := wrap_pred r3' (by omega)
      obtain ⟨x3, c3⟩ := hb3.there r3' (by omega)
      have f3 := hb3.open_ r3' (by omega)
      have Hb3 := hide hb3
      clear hb3
      clear c2 f2
      by_cases hhp : 0 < h
      · have hsl3 := sl80 b r3' (by omega)
        go_wp2_with fail
        refine (fmtInt34 w0 b r3' 7 h _ (Hb3.out.step _) (by omega) (by omega) (by omega) (by omega) (by omega) (by omega)).mono ?_
        rintro e w4 ⟨r4, rfl, lo4, hi4, hb4⟩
        obtain ⟨r4', rfl⟩ : ∃ r4', r4 = r4' + 1 := ⟨r4 - 1, by omega⟩
        have hs4 := wrap_pred r4' (by omega)
        obtain ⟨x4, c4⟩ := hb4.there r4' (by omega)
        have f4 := hb4.open_ r4' (by omega)
        have Hb4 := hide hb4
        clear hb4
        clear c3 f3
        go_wp2
        go_ret
        first
        | exact ⟨r4' + 1, rfl, by omega, by omega, Hb4.out⟩
        | exact ⟨r4', rfl, by omega, by omega, Hb4.out.step _⟩
      · go_wp2
        go_ret
        first
        | exact ⟨r3' + 1, rfl, by omega, by omega, Hb3.out⟩
        | exact ⟨r3', rfl, by omega, by omega, Hb3.out.step _⟩
    · go_wp2
      go_ret
      first
      | exact ⟨r2' + 1, rfl, by omega, by omega, Hb2.out⟩
      | exact ⟨r2', rfl, by omega, by omega, Hb2.out.step _⟩

theorem format30 (w0 : World) (b : Nat) (d : Int) (w : World) (hB : Buf w0 b w) (h1 : -9223372036854775808 ≤ d) (h2 : d ≤ 9223372036854775807) :
    Calls Tryf.prog 30 #[.int .i64 d, .pointer (some ⟨b, 0, none⟩)] w (Wrote w0 b 0 31) := by
  by_cases h0 : d = 0
  · subst h0; exact format_zero w0 b w hB
  · obtain ⟨u, ha, hu0, hu9⟩ := abs_of d h1 h2
    have hup : 0 < u := by
      rcases ha with ⟨hn, U, hU, hu⟩ | ⟨hn, hu⟩
      · rw [IntKind.wrap_u64] at hU hu; omega
      · rw [IntKind.wrap_u64] at hu; omega
    by_cases h9 : u < 1000000000
    · exact format_small w0 b d u w hB ha hup h9
    · exact format_great w0 b d u w hB ha (by omega) hu9

end Go.Proofs.Qxb6615891aFmt
