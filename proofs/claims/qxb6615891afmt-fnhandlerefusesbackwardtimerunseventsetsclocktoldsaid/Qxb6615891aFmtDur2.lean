/-
  (time.Duration).format (30) and String (25).
-/
import Derived.Test.Qxb6615891aFmtDur
import Derived.Lib.LazyBuf
namespace Go.Proofs.Qxb6615891aFmt
open Go.RowKit Go.Extern.Stop Go.Stop Go.Extern

theorem fracQ (w0 : World) (b L prec : Nat) (v q : Int) (w : World) (hB : Buf w0 b w) (hL : L ≤ 32) (hk : prec + 1 ≤ L) (h0 : 0 ≤ v) (h64 : v < 18446744073709551616) (hq : v / (10 : Int) ^ prec = q) :
    Calls Tryf.prog 33 #[.slice (some ⟨b, 0, none⟩) L 32, .int .u64 v, .int .i64 prec] w (Frac w0 b (L - prec - 1) L q) := by
  subst hq
  exact fmtFrac33 w0 b L prec v w hB hL hk h0 h64

/-- copy(buf[29:], "µ"). -/
theorem copyMu (w0 : World) (b : Nat) (w : World) (hB : Buf w0 b w) : ∃ w2, Sem.run Tryf.prog (Builtin.copy_ #[72, 9] 3 #[.slice (some ⟨b, 29, none⟩) 3 3, .string ⟨#[194, 181]⟩]) w = .ok (.int .i64 2) w2 ∧ Buf w0 b w2 := by
  refine ⟨_, run_copy_string (P := Tryf.prog) w 72 9 3 5 b 29 3 3 ⟨#[194, 181]⟩ Tryf.underlying72 (fun w => by kernel_rfl) (by decide) (fun j hj => ?_) (fun j hj => ?_), ?_⟩
  · have hj' : j < 2 := hj
    obtain ⟨z, hz⟩ := hB.there (29 + j) (by omega)
    rw [hz]; rfl
  · have hj' : j < 2 := hj
    exact hB.open_ _ (by omega)
  · exact (hB.step (j := 29) 194).step (j := 30) 181

theorem len80 : Tryf.prog.arrayLen 80 = 32 := by kernel_rfl
theorem und80 : Tryf.prog.underlying 80 = some (.array (Tryf.prog.arrayLen 80) (Tryf.prog.elem 80)) := by kernel_rfl
theorem size80 (w : World) : (Go.sizeOf (Tryf.prog.elem 80)).run Tryf.prog w = .ok 1 w := by kernel_rfl

/-- buf[:r]. -/
theorem sl80 (b r : Nat) (h : r ≤ 32) (w : World) : Sem.run Tryf.prog (Instr.sliceAt 80 (.pointer (some ⟨b, 0, none⟩)) none (some (.int .i64 r)) none) w = .ok (.slice (some ⟨b, 0, none⟩) r 32) w := by
  rw [run_sliceAt_array_h w 80 ⟨b, 0, none⟩ und80 .i64 r (by omega) (by rw [len80]; omega), size80]
  simp [Result.andThen, slicedAt, len80, Addr.add]

/-- buf[r:]. -/
theorem sl80l (b r : Nat) (h : r < 32) (w : World) : Sem.run Tryf.prog (Instr.sliceAt 80 (.pointer (some ⟨b, 0, none⟩)) (some (.int .i64 r)) none none) w = .ok (.slice (some ⟨b, r, none⟩) (32 - r) (32 - r)) w := by
  rw [run_sliceAt_array_l w 80 ⟨b, 0, none⟩ und80 .i64 r (by omega) (by rw [len80]; omega), size80]
  have : ¬ 32 = r := by omega
  simp [Result.andThen, slicedAt, len80, Addr.add, this]
  omega

/-- What is known of the sign: u is d without it. -/
def Abs (d u : Int) : Prop := (d < 0 ∧ ∃ U, IntKind.u64.wrap d = U ∧ IntKind.u64.wrap (-U) = u) ∨ (0 ≤ d ∧ IntKind.u64.wrap d = u)

theorem abs_of (d : Int) (h1 : -9223372036854775808 ≤ d) (h2 : d ≤ 9223372036854775807) : ∃ u, Abs d u ∧ 0 ≤ u ∧ u ≤ 9223372036854775808 := by
  by_cases h : d < 0
  · refine ⟨-d, .inl ⟨h, d + 18446744073709551616, ?_, ?_⟩, by omega, by omega⟩
    · rw [IntKind.wrap_u64]; omega
    · rw [IntKind.wrap_u64]; omega
  · exact ⟨d, .inr ⟨by omega, by rw [IntKind.wrap_u64]; omega⟩, by omega, by omega⟩

set_option maxRecDepth 100000 in
set_option maxHeartbeats 1000000 in
theorem format_zero (w0 : World) (b : Nat) (w : World) (hB : Buf w0 b w) : Calls Tryf.prog 30 #[.int .i64 0, .pointer (some ⟨b, 0, none⟩)] w (Wrote w0 b 0 31) := by
  have HB := hide hB
  obtain ⟨x31, c31⟩ := hB.there 31 (by omega)
  obtain ⟨x30, c30⟩ := hB.there 30 (by omega)
  have f31 := hB.open_ 31 (by omega)
  have f30 := hB.open_ 30 (by omega)
  clear hB
  go_enter Tryf.func30, Tryf.ntmps30
  go_wp2
  go_ret
  exact ⟨30, rfl, by omega, by omega, (HB.out.step _).step _⟩

set_option maxRecDepth 100000 in
set_option maxHeartbeats 4000000 in
theorem format_small (w0 : World) (b : Nat) (d u : Int) (w : World) (hB : Buf w0 b w) (ha : Abs d u) (h0 : 0 < u) (h9 : u < 1000000000) :
    Calls Tryf.prog 30 #[.int .i64 d, .pointer (some ⟨b, 0, none⟩)] w (Wrote w0 b 0 31) := by
  have HB := hide hB
  obtain ⟨x31, c31⟩ := hB.there 31 (by omega)
  obtain ⟨x30, c30⟩ := hB.there 30 (by omega)
  have f31 := hB.open_ 31 (by omega)
  have f30 := hB.open_ 30 (by omega)
  obtain ⟨wc, hcopy, hBc⟩ := copyMu w0 b _ (hB.step (j := 31) 115)
  have HBc := hide hBc
  clear hB hBc
  have h0' : ¬ u = 0 := by omega
  by_cases h3 : u < 1000
  · obtain ⟨q, hq, hq1, hq2⟩ : ∃ q, u / (10 : Int) ^ 0 = q ∧ 0 ≤ q ∧ q < 1000 := ⟨u, by simp, by omega, by omega⟩
    rcases ha with ⟨hn, U, hU, hu⟩ | ⟨hn, hu⟩
    all_goals
      go_enter Tryf.func30, Tryf.ntmps30
      go_wp2_with fail
      refine (fracQ w0 b 30 0 u q _ ((HB.out.step _).step _) (by omega) (by omega) (by omega) (by omega) hq).mono ?_
      rintro e w1 ⟨r1, rfl, lo1, hi1, hb1⟩
      have Hb1 := hide hb1
      have hsl := sl80 b r1 (by omega)
      clear hb1 hcopy c31 c30 f31 f30
      go_wp2_with fail
      refine (fmtInt34 w0 b r1 3 q w1 Hb1.out (by omega) (by omega) (by omega) (by omega) (by omega) (by omega)).mono ?_
      rintro e w2 ⟨r2, rfl, lo2, hi2, hb2⟩
      obtain ⟨r3, rfl⟩ : ∃ r3, r2 = r3 + 1 := ⟨r2 - 1, by omega⟩
      have hs := wrap_pred r3 (by omega)
      obtain ⟨x3, c3⟩ := hb2.there r3 (by omega)
      have f3 := hb2.open_ r3 (by omega)
      have Hb2 := hide hb2
      clear hb2
      go_wp2
      go_ret
      first
      | exact ⟨r3 + 1, rfl, by omega, by omega, Hb2.out⟩
      | exact ⟨r3, rfl, by omega, by omega, Hb2.out.step _⟩
  · by_cases h6 : u < 1000000
    · obtain ⟨q, hq, hq1, hq2⟩ : ∃ q, u / (10 : Int) ^ 3 = q ∧ 0 ≤ q ∧ q < 1000 := ⟨u / 1000, by simp, by omega, by omega⟩
      rcases ha with ⟨hn, U, hU, hu⟩ | ⟨hn, hu⟩
      all_goals
        go_enter Tryf.func30, Tryf.ntmps30
        go_wp2_with fail
        refine (fracQ w0 b 29 3 u q _ HBc.out (by omega) (by omega) (by omega) (by omega) hq).mono ?_
        rintro e w1 ⟨r1, rfl, lo1, hi1, hb1⟩
        have Hb1 := hide hb1
        have hsl := sl80 b r1 (by omega)
        clear hb1 hcopy c31 c30 f31 f30
        go_wp2_with fail
        refine (fmtInt34 w0 b r1 3 q w1 Hb1.out (by omega) (by omega) (by omega) (by omega) (by omega) (by omega)).mono ?_
        rintro e w2 ⟨r2, rfl, lo2, hi2, hb2⟩
        obtain ⟨r3, rfl⟩ : ∃ r3, r2 = r3 + 1 := ⟨r2 - 1, by omega⟩
        have hs := wrap_pred r3 (by omega)
        obtain ⟨x3, c3⟩ := hb2.there r3 (by omega)
        have f3 := hb2.open_ r3 (by omega)
        have Hb2 := hide hb2
        clear hb2
        go_wp2
        go_ret
        first
        | exact ⟨r3 + 1, rfl, by omega, by omega, Hb2.out⟩
        | exact ⟨r3, rfl, by omega, by omega, Hb2.out.step _⟩
    · obtain ⟨q, hq, hq1, hq2⟩ : ∃ q, u / (10 : Int) ^ 6 = q ∧ 0 ≤ q ∧ q < 1000 := ⟨u / 1000000, by simp, by omega, by omega⟩
      rcases ha with ⟨hn, U, hU, hu⟩ | ⟨hn, hu⟩
      all_goals
        go_enter Tryf.func30, Tryf.ntmps30
        go_wp2_with fail
        refine (fracQ w0 b 30 6 u q _ ((HB.out.step _).step _) (by omega) (by omega) (by omega) (by omega) hq).mono ?_
        rintro e w1 ⟨r1, rfl, lo1, hi1, hb1⟩
        have Hb1 := hide hb1
        have hsl := sl80 b r1 (by omega)
        clear hb1 hcopy c31 c30 f31 f30
        go_wp2_with fail
        refine (fmtInt34 w0 b r1 3 q w1 Hb1.out (by omega) (by omega) (by omega) (by omega) (by omega) (by omega)).mono ?_
        rintro e w2 ⟨r2, rfl, lo2, hi2, hb2⟩
        obtain ⟨r3, rfl⟩ : ∃ r3, r2 = r3 + 1 := ⟨r2 - 1, by omega⟩
        have hs := wrap_pred r3 (by omega)
        obtain ⟨x3, c3⟩ := hb2.there r3 (by omega)
        have f3 := hb2.open_ r3 (by omega)
        have Hb2 := hide hb2
        clear hb2
        go_wp2
        go_ret
        first
        | exact ⟨r3 + 1, rfl, by omega, by omega, Hb2.out⟩
        | exact ⟨r3, rfl, by omega, by omega, Hb2.out.step _⟩

end Go.Proofs.Qxb6615891aFmt
