/-
  valueEnds (function 18) where the byte string is not just its values.
-/
import Derived.Test.Qxb6615609aFmtEnds
import Derived.Test.Qxb6615609aFmtBad
namespace Go.Proofs.Qxb6615609aFmt
open Go.RowKit Go.Extern.Stop Go.Stop Go.Extern

/-- No function and an error come back; nothing that was there has turned. -/
def EndsBad (w : World) (e : Ending) (w' : World) : Prop := ∃ ae se, e = .returned (.tuple #[.nilFunc, .iface 65 (.pointer (some ae))]) ∧ w'.cell? ae = some (.string se) ∧ Below w.heap.size w w'

theorem EndsTo.any {w wr : World} {H : Nat} {es : List Nat} {rows k : Nat} (h : EndsTo w wr H es rows 0) (v : Value) : EndsTo w (wr.setCell ⟨H + 1, k, none⟩ v) H es rows 0 where
  below := h.below.setCell (by simp) _
  size := by rw [World.size_setCell]; exact h.size
  box := by rw [World.cell?_setCell_other _ _ _ _ (by intro c; injection c; omega)]; exact h.box
  done := by intro j hj; omega
  there := by
    intro j hj
    by_cases e : j = k
    · subst e
      obtain ⟨v, hv⟩ := h.there _ hj
      exact ⟨_, World.cell?_setCell_same _ _ _ hv⟩
    · rw [World.cell?_setCell_other _ _ _ _ (by intro c; injection c; omega)]
      exact h.there j hj
  open_ := by intro j hj; rw [World.frozen?_setCell]; exact h.open_ j hj

set_option maxHeartbeats 2000000 in
theorem ends_fix_bad (F : Interp) (a : Option Addr) (n c rows : Nat) (width : Int) (w : World) (hF : F.answers w.tape) (hrows : rows ≤ 65536) (hw : 0 < width) (hw' : width ≤ 16384) (hfit : (n : Int) ≠ rows * width) :
    Calls Tryf.prog 18 #[.slice a n c, .int .i64 rows, .int .i64 width] w (EndsBad w) := by
  have hb : (rows : Int) * width ≤ 65536 * 16384 := by
    have := Int.mul_le_mul (Int.ofNat_le.2 hrows) hw' (by omega) (by omega)
    simpa using this
  have hb0 : 0 ≤ (rows : Int) * width := Int.mul_nonneg (by omega) (by omega)
  have hne : ((n : Int) != (rows : Int) * width) = true := by simpa using hfit
  have hpos : ¬ width ≤ 0 := by omega
  clear hfit
  go_enter Tryf.func18, Tryf.ntmps18
  go_wp2_with (go_at_call 19; refine (errInts3 F n rows width _ _ (by exact hF) ?h0 ?h1 ?h2).mono ?_)
  rintro e w1 ⟨ae, se, rfl, hse, hx⟩
  simp only [World.size_alloc] at hx
  have Hx := hide hx
  have Hs := hide hse
  clear hx hse
  go_wp2
  go_ret2
  exact ⟨ae, se, rfl, Hs.out, (((Below.refl _ _).alloc (Nat.le_refl _) _).alloc (by simp) _).trans (Hx.out.mono (by omega))⟩

theorem bad_of {w wr w2 : World} {cs : Array Value} {t : TypeId} {ae : Addr} {se : ByteArray} (hb : Below w.heap.size w wr) (hx : Below (wr.alloc (.cells cs t)).heap.size (wr.alloc (.cells cs t)) w2) (hs : w2.cell? ae = some (.string se)) :
    EndsBad w (.returned (.tuple #[.nilFunc, .iface 65 (.pointer (some ae))])) w2 :=
  ⟨ae, se, rfl, hs, (hb.alloc hb.size _).trans (hx.mono (by rw [World.size_alloc]; exact Nat.le_succ_of_le hb.size))⟩

theorem uv22_nil (a : Option Addr) (c : Nat) (w : World) : Calls Tryf.prog 22 #[.slice a 0 c] w (fun e w' => e = .returned (.tuple #[.int .u64 0, .int .i64 0]) ∧ w' = w) :=
  uv22 0 a 0 c [] w rfl (fun i hi => by omega)

theorem strEnds_none {l : List UInt8} {rows k p : Nat} (hk : k < rows) (h : strEnds l (rows - k) p = none) :
    ((Lib.uvarintDec (l.drop p)).2 ≤ 0) ∨ ∃ m v : Nat, 0 < m ∧ Lib.uvarintDec (l.drop p) = (v, (m : Int)) ∧ (l.length < p + m + v ∨ (p + m + v ≤ l.length ∧ strEnds l (rows - (k + 1)) (p + (m + v)) = none)) := by
  obtain ⟨r, hr⟩ : ∃ r, rows - k = r + 1 := ⟨rows - k - 1, by omega⟩
  obtain ⟨⟨v, m⟩, hd⟩ : ∃ d, Lib.uvarintDec (l.drop p) = d := ⟨_, rfl⟩
  rw [hr] at h
  simp only [strEnds, hd] at h ⊢
  by_cases hm : m ≤ 0
  · exact .inl hm
  · right
    refine ⟨m.toNat, v, by omega, by rw [Int.toNat_of_nonneg (by omega)], ?_⟩
    split at h
    · rename_i ho
      left
      omega
    · rename_i ho
      right
      refine ⟨by omega, ?_⟩
      rw [show rows - (k + 1) = r by omega]
      simpa using h

theorem strEnds_none_last {l : List UInt8} {p : Nat} (h : strEnds l 0 p = none) : p ≠ l.length := by
  intro e
  simp [strEnds, e] at h

set_option maxRecDepth 100000 in
set_option maxHeartbeats 2000000 in
theorem ends_str_bad (F : Interp) (B : Nat) (a : Option Addr) (n c rows : Nat) (l : List UInt8) (w : World) (hF : F.answers w.tape) (hl : l.length = n) (hn : n ≤ 4398046511104) (hnc : n ≤ c) (hrows : rows ≤ 65536) (hB : B ≤ w.heap.size) (hat : At B w a n (bytesOf l)) (hes : strEnds l rows 0 = none) :
    Calls Tryf.prog 18 #[.slice a n c, .int .i64 rows, .int .i64 0] w (EndsBad w) := by
  obtain ⟨C, hC, hmk⟩ := mk22 rows (by omega)
  have H0 : Hid (EndsTo w (((w.alloc (.cells #[.int .i64 0] 3)).alloc (.cells C 3)).alloc (.cells #[.slice (some ⟨w.heap.size + 1, 0, none⟩) rows rows] 22)) w.heap.size [] rows 0) := EndsTo.start w [] rows _ C hC
  have HF := hide hF
  clear hF
  go_enter Tryf.func18, Tryf.ntmps18
  go_wp2
  go_loopw [9, 35] (fun e t wr => ∃ k p : Nat, k ≤ rows ∧ p ≤ n ∧ t = .int .i64 k ∧ e = .int .i64 p ∧ strEnds l (rows - k) p = none ∧ EndsTo w wr w.heap.size [] rows 0) (fun _ t _ => rows - (intOf t).toNat)
  case atStart => exact ⟨0, 0, by omega, by omega, rfl, rfl, by simpa using hes, H0.out⟩
  case round =>
    obtain ⟨k, p, hk, hp, rfl, rfl, hse, hto⟩ := hrel
    clear H0 hmk hC hes
    have HFr : Hid (F.answers wr.tape) := hide (by rw [hto.below.tape]; exact HF.out)
    have Hto := hide hto
    by_cases hlt : k < rows
    · by_cases hpn : p < n
      · have hat' := hat.below (hto.below.mono hB)
        obtain ⟨b, off, ha, hbB, hcell⟩ := hat'.addr (by omega)
        subst ha
        have hbox := hto.box
        obtain ⟨v0, hv0⟩ := hto.there k hlt
        have hfr := hto.open_ k hlt
        have hcut : ∀ j (hj : j < (l.drop p).length), wr.cell? ⟨b, off + p + j, none⟩ = some (.int .u8 ((l.drop p)[j]).toNat) := by
          intro j hj
          rw [List.length_drop] at hj
          have := cells_of_at (w := wr) (b := b) (off := off) (l := l) (fun i hi => hcell i (by omega)) (p + j) (by omega)
          rw [Nat.add_assoc, this]
          simp
        have hkk := Tryf.binary_Uvarint b (off + p) (n - p) (c - p) (l.drop p) wr (by simp [hl]) hcut
        rcases strEnds_none hlt hse with hneg | ⟨m, v, hm, hd, hrest⟩
        · obtain ⟨⟨v, m⟩, hd⟩ : ∃ d, Lib.uvarintDec (l.drop p) = d := ⟨_, rfl⟩
          rw [hd] at hkk hneg
          have t1 : m ≤ 0 := hneg
          have Hkk := hide hkk
          clear hse hto hat hat' hcell hcut hkk hd hneg
          go_wp2_with fail
          refine Hkk.out.mono ?_
          rintro e w' ⟨rfl, rfl⟩
          go_wp2_with (go_at_call 19; refine (errNot F n rows _ _ (by exact HFr.out) ?h0 ?h1).mono ?_)
          case h0 => go_simp
          case h1 => go_simp
          rintro e w2 ⟨ae, se, rfl, hse, hx⟩
          have Hfin := hide (bad_of (Hto.out.below) hx hse)
          clear hx hse
          go_wp2
          go_ret2
          exact Hfin.out
        · rw [hd] at hkk
          have hdl := dec_le (l.drop p)
          rw [hd, List.length_drop] at hdl
          have hdl' : m + p ≤ n := by simp only at hdl; omega
          have t1 : ¬ (m : Int) ≤ 0 := by omega
          have Hkk := hide hkk
          rcases hrest with hover | ⟨hfit, hse'⟩
          · have hov : n < p + m + v := by omega
            clear hse hto hat hat' hcell hcut hkk hd hdl hover
            go_wp2_with fail
            refine Hkk.out.mono ?_
            rintro e w' ⟨rfl, rfl⟩
            go_wp2_with (go_at_call 19; refine (errNot F n rows _ _ (by exact HFr.out) ?h2 ?h3).mono ?_)
            case h2 => go_simp
            case h3 => go_simp
            rintro e w2 ⟨ae, se, rfl, hse, hx⟩
            have Hfin := hide (bad_of (Hto.out.below) hx hse)
            clear hx hse
            go_wp2
            go_ret2
            exact Hfin.out
          · have Hse := hide hse'
            have hst := hto.any (k := k) (.int .i64 ((p : Int) + ((m : Int) + (v : Int))))
            have Hst := hide hst
            clear hse hto hat hat' hcell hcut hkk hd hdl hse' hst
            go_wp2_with fail
            refine Hkk.out.mono ?_
            rintro e w' ⟨rfl, rfl⟩
            go_wp2
            go_roundw
            case rel => exact ⟨k + 1, p + (m + v), by omega, by omega, by go_num, by go_num, Hse.out, Hst.out⟩
            case measure => simp [intOf]; omega
      · obtain rfl : p = n := by omega
        have hbox := hto.box
        obtain ⟨v0, hv0⟩ := hto.there k hlt
        have hfr := hto.open_ k hlt
        clear hse hto hat
        go_wp2_with fail
        all_goals
          refine (uv22_nil _ _ wr).mono ?_
          rintro e w' ⟨rfl, rfl⟩
          go_wp2_with (go_at_call 19; refine (errNot F p rows _ _ (by exact HFr.out) ?h6 ?h7).mono ?_)
          case h6 => go_simp
          case h7 => go_simp
          rintro e w2 ⟨ae, se, rfl, hse, hx⟩
          have Hfin := hide (bad_of (Hto.out.below) hx hse)
          clear hx hse
          go_wp2
          go_ret2
          exact Hfin.out
    · obtain rfl : k = rows := by omega
      rw [Nat.sub_self] at hse
      have hp' := strEnds_none_last hse
      have hne : ((p : Int) != (n : Int)) = true := by simp; omega
      clear hse hto hat hp'
      go_wp2_with (go_at_call 19; refine (errMore F n k _ _ (by exact HFr.out) ?h4 ?h5).mono ?_)
      case h4 => go_simp
      case h5 => go_simp
      rintro e w2 ⟨ae, se, rfl, hse, hx⟩
      have Hfin := hide (bad_of (Hto.out.below) hx hse)
      clear hx hse
      go_wp2
      go_ret2
      exact Hfin.out

/-- valueEnds, both ways, where it fails. -/
theorem ends18_bad (F : Interp) (B : Nat) (a : Option Addr) (n c rows : Nat) (width : Int) (l : List UInt8) (w : World) (hF : F.answers w.tape) (hl : l.length = n) (hn : n ≤ 4398046511104) (hnc : n ≤ c) (hrows : rows ≤ 65536) (hw : 0 ≤ width ∧ width ≤ 16384) (hB : B ≤ w.heap.size) (hat : At B w a n (bytesOf l)) (hes : valEnds l rows width = none) :
    Calls Tryf.prog 18 #[.slice a n c, .int .i64 rows, .int .i64 width] w (EndsBad w) := by
  unfold valEnds at hes
  by_cases hp : 0 < width
  · rw [if_pos hp] at hes
    split at hes
    · simp at hes
    · rename_i hfit
      exact ends_fix_bad F a n c rows width w hF hrows hp hw.2 (by rw [← hl]; exact hfit)
  · rw [if_neg hp] at hes
    obtain rfl : width = 0 := by omega
    exact ends_str_bad F B a n c rows l w hF hl hn hnc hrows hB hat hes
end Go.Proofs.Qxb6615609aFmt
