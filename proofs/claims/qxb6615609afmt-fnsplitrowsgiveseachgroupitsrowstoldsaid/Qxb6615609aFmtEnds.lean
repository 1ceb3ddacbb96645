/-
  valueEnds (function 18) where the byte string is just its values, and the functions that it hands back (21, 23).
-/
import Derived.Test.Qxb6615609aFmtUv
import Derived.Test.Qxb6615609aFmtPlain
import Derived.Laws.MakeOwn
import Derived.Deep.OwnRows
import Derived.WalkLawsBesides
namespace Go.Proofs.Qxb6615609aFmt
open Go.RowKit

theorem info3 : (Tryf.prog.info? 3).map (fun i => (i.zero, i.size, i.bytes)) = some (some (.int .i64 0), 1, 8) := by kernel_rfl

theorem mk22 (n : Nat) (hn : n ≤ 1048576) : ∃ C : Array Value, C.size = n ∧ ∀ w : World, (Instr.makeSlice 22 (.int .i64 (n : Int)) (.int .i64 (n : Int))).run Tryf.prog w = .ok (.slice (some ⟨w.heap.size, 0, none⟩) n n) (w.alloc (.cells C 3)) := by
  refine ⟨madeCells #[.int .i64 0] n, size_madeCells _ _, fun w => ?_⟩
  exact run_make_row' (P := Tryf.prog) 22 3 (.int .i64 0) 8 Tryf.underlying22 info3 rfl .i64 .i64 n (by omega) (by omega) w

/-- Behind k rounds: block H + 1 is the row of ends, block H + 2 the variable that leads to it. -/
structure EndsTo (w wr : World) (H : Nat) (es : List Nat) (rows k : Nat) : Prop where
  below : Below H w wr
  size : wr.heap.size = H + 3
  box : wr.cell? ⟨H + 2, 0, none⟩ = some (.slice (some ⟨H + 1, 0, none⟩) rows rows)
  done : ∀ j, j < k → wr.cell? ⟨H + 1, j, none⟩ = some (.int .i64 (es.getD j 0 : Nat))
  there : ∀ j, j < rows → ∃ v, wr.cell? ⟨H + 1, j, none⟩ = some v
  open_ : ∀ j, j < rows → wr.frozen? ⟨H + 1, j, none⟩ = false

theorem EndsTo.start (w : World) (es : List Nat) (rows : Nat) (v : Value) (C : Array Value) (hC : C.size = rows) :
    EndsTo w (((w.alloc (.cells #[v] 3)).alloc (.cells C 3)).alloc (.cells #[.slice (some ⟨w.heap.size + 1, 0, none⟩) rows rows] 22)) w.heap.size es rows 0 where
  below := (((Below.refl _ _).alloc (Nat.le_refl _) _).alloc (by simp) _).alloc (by simp; omega) _
  size := by simp
  box := by
    have := World.cell?_alloc_new (w := (w.alloc (.cells #[v] 3)).alloc (.cells C 3)) #[.slice (some ⟨w.heap.size + 1, 0, none⟩) rows rows] 22 0
    simp only [World.size_alloc] at this
    exact this
  done := by intro j hj; omega
  there := by
    intro j hj
    refine ⟨C[j]'(by omega), ?_⟩
    rw [World.cell?_alloc_past _ _ _ (by simp)]
    have := World.cell?_alloc_new (w := w.alloc (.cells #[v] 3)) C 3 j
    simp only [World.size_alloc] at this
    rw [this]
    simp [hC, hj]
  open_ := by
    intro j hj
    rw [World.frozen?_alloc_old _ _ _ (by simp)]
    have := World.frozen?_alloc_new (w := w.alloc (.cells #[v] 3)) C 3 j
    simp only [World.size_alloc] at this
    exact this

theorem EndsTo.step {w wr : World} {H : Nat} {es : List Nat} {rows k : Nat} (h : EndsTo w wr H es rows k) (hk : k < rows) : EndsTo w (wr.setCell ⟨H + 1, k, none⟩ (.int .i64 (es.getD k 0 : Nat))) H es rows (k + 1) where
  below := h.below.setCell (by simp) _
  size := by rw [World.size_setCell]; exact h.size
  box := by rw [World.cell?_setCell_other _ _ _ _ (by intro c; injection c; omega)]; exact h.box
  done := by
    intro j hj
    by_cases e : j = k
    · subst e
      obtain ⟨v, hv⟩ := h.there j hk
      exact World.cell?_setCell_same _ _ _ hv
    · rw [World.cell?_setCell_other _ _ _ _ (by intro c; injection c; omega)]
      exact h.done j (by omega)
  there := by
    intro j hj
    by_cases e : j = k
    · subst e
      obtain ⟨v, hv⟩ := h.there _ hj
      exact ⟨_, World.cell?_setCell_same _ _ _ hv⟩
    · rw [World.cell?_setCell_other _ _ _ _ (by intro c; injection c; omega)]
      exact h.there j hj
  open_ := by intro j hj; rw [World.frozen?_setCell]; exact h.open_ j hj

/-- A function value that gives the ends 'es' of 'rows' values, in memory from block lo on: valueEnds$1 over the width, or valueEnds$2 over the row of ends. -/
def EndsFn (lo : Nat) (w : World) (fv : Value) (rows : Nat) (width : Int) (es : List Nat) : Prop :=
  (0 < width ∧ es = (List.range rows).map (fun i => (i + 1) * width.toNat) ∧ ∃ b, lo ≤ b ∧ b < w.heap.size ∧ fv = .func (.func 21) #[] #[.pointer (some ⟨b, 0, none⟩)] ∧ w.cell? ⟨b, 0, none⟩ = some (.int .i64 width)) ∨
  (width = 0 ∧ es.length = rows ∧ ∃ b b', lo ≤ b ∧ b < w.heap.size ∧ lo ≤ b' ∧ b' < w.heap.size ∧ fv = .func (.func 23) #[] #[.pointer (some ⟨b, 0, none⟩)] ∧ w.cell? ⟨b, 0, none⟩ = some (.slice (some ⟨b', 0, none⟩) rows rows) ∧ ∀ j, j < rows → w.cell? ⟨b', j, none⟩ = some (.int .i64 (es.getD j 0 : Nat)))

theorem EndsFn.lower {lo lo' : Nat} {w : World} {fv : Value} {rows : Nat} {width : Int} {es : List Nat} (h : EndsFn lo w fv rows width es) (hl : lo' ≤ lo) : EndsFn lo' w fv rows width es := by
  rcases h with ⟨h1, h2, b, h3, h4⟩ | ⟨h1, h2, b, b', h3, h4, h5, h6⟩
  · exact .inl ⟨h1, h2, b, by omega, h4⟩
  · exact .inr ⟨h1, h2, b, b', by omega, h4, by omega, h6⟩

theorem EndsFn.grow {lo : Nat} {w w' : World} {fv : Value} {rows : Nat} {width : Int} {es : List Nat} (h : EndsFn lo w fv rows width es) (hb : Below w.heap.size w w') : EndsFn lo w' fv rows width es := by
  have hs := hb.size
  rcases h with ⟨h1, h2, b, h3, h4, h5, h6⟩ | ⟨h1, h2, b, b', h3, h4, h5, h6, h7, h8, h9⟩
  · exact .inl ⟨h1, h2, b, h3, by omega, h5, (hb.cell (p := ⟨b, 0, none⟩) h4).trans h6⟩
  · exact .inr ⟨h1, h2, b, b', h3, by omega, h5, by omega, h7, (hb.cell (p := ⟨b, 0, none⟩) h4).trans h8, fun j hj => (hb.cell (p := ⟨b', j, none⟩) h6).trans (h9 j hj)⟩

theorem EndsFn.store {lo : Nat} {w : World} {fv : Value} {rows : Nat} {width : Int} {es : List Nat} (h : EndsFn lo w fv rows width es) {g s : Nat} (hg : g < lo) (v : Value) : EndsFn lo (w.setCell ⟨g, s, none⟩ v) fv rows width es := by
  rcases h with ⟨h1, h2, b, h3, h4, h5, h6⟩ | ⟨h1, h2, b, b', h3, h4, h5, h6, h7, h8, h9⟩
  · exact .inl ⟨h1, h2, b, h3, by rw [World.size_setCell]; exact h4, h5, by rw [World.cell?_setCell_other _ _ _ _ (by intro c; injection c; omega)]; exact h6⟩
  · exact .inr ⟨h1, h2, b, b', h3, by rw [World.size_setCell]; exact h4, h5, by rw [World.size_setCell]; exact h6, h7, by rw [World.cell?_setCell_other _ _ _ _ (by intro c; injection c; omega)]; exact h8,
      fun j hj => by rw [World.cell?_setCell_other _ _ _ _ (by intro c; injection c; omega)]; exact h9 j hj⟩

/-- What valueEnds comes to where the byte string is just its values. -/
def Ended (rows : Nat) (width : Int) (es : List Nat) (w : World) (e : Ending) (w' : World) : Prop :=
  ∃ fv, e = .returned (.tuple #[fv, .nilIface]) ∧ Below w.heap.size w w' ∧ EndsFn w.heap.size w' fv rows width es

theorem Ended.strs {w wr : World} {es : List Nat} {rows : Nat} (h : EndsTo w wr w.heap.size es rows rows) (hl : es.length = rows) :
    Ended rows 0 es w (.returned (.tuple #[.func (.func 23) #[] #[.pointer (some ⟨w.heap.size + 2, 0, none⟩)], .nilIface])) wr := by
  have hs := h.size
  exact ⟨_, rfl, h.below, .inr ⟨rfl, hl, _, _, by omega, by omega, by omega, by omega, rfl, h.box, h.done⟩⟩

set_option maxHeartbeats 2000000 in
theorem ends_fix (a : Option Addr) (n c rows : Nat) (width : Int) (w : World) (hrows : rows ≤ 65536) (hw : 0 < width) (hw' : width ≤ 16384) (hfit : (n : Int) = rows * width) :
    Calls Tryf.prog 18 #[.slice a n c, .int .i64 rows, .int .i64 width] w fun e w' => Ended rows width ((List.range rows).map fun i => (i + 1) * width.toNat) w e w' := by
  have hb : (rows : Int) * width ≤ 65536 * 16384 := by
    have := Int.mul_le_mul (Int.ofNat_le.2 hrows) hw' (by omega) (by omega)
    simpa using this
  have hb0 : 0 ≤ (rows : Int) * width := by rw [← hfit]; omega
  have hne : ((n : Int) != (rows : Int) * width) = false := by rw [hfit]; simp
  have hpos : ¬ width ≤ 0 := by omega
  clear hfit
  have hfin : Hid (Ended rows width ((List.range rows).map fun i => (i + 1) * width.toNat) w (.returned (.tuple #[.func (.func 21) #[] #[.pointer (some ⟨w.heap.size, 0, none⟩)], .nilIface])) (w.alloc (.cells #[.int .i64 width] 3))) :=
    ⟨_, rfl, (Below.refl _ _).alloc (Nat.le_refl _) _, .inl ⟨hw, rfl, _, Nat.le_refl _, by simp, rfl, by rw [World.cell?_alloc_new]; rfl⟩⟩
  go_enter Tryf.func18, Tryf.ntmps18
  go_wp2
  go_ret2
  exact hfin.out

set_option maxRecDepth 100000 in
set_option maxHeartbeats 2000000 in
theorem ends_str (B : Nat) (a : Option Addr) (n c rows : Nat) (l : List UInt8) (es : List Nat) (w : World) (hl : l.length = n) (hn : n ≤ 4398046511104) (hnc : n ≤ c) (hrows : rows ≤ 65536) (hB : B ≤ w.heap.size) (hat : At B w a n (bytesOf l)) (hes : strEnds l rows 0 = some es) :
    Calls Tryf.prog 18 #[.slice a n c, .int .i64 rows, .int .i64 0] w fun e w' => Ended rows 0 es w e w' := by
  have hlen := (strEnds_some l rows 0 es hes).1
  obtain ⟨C, hC, hmk⟩ := mk22 rows (by omega)
  have H0 : Hid (EndsTo w (((w.alloc (.cells #[.int .i64 0] 3)).alloc (.cells C 3)).alloc (.cells #[.slice (some ⟨w.heap.size + 1, 0, none⟩) rows rows] 22)) w.heap.size es rows 0) := EndsTo.start w es rows _ C hC
  go_enter Tryf.func18, Tryf.ntmps18
  go_wp2
  go_loopw [9, 35] (fun e t wr => ∃ k p : Nat, k ≤ rows ∧ p ≤ n ∧ t = .int .i64 k ∧ e = .int .i64 p ∧ strEnds l (rows - k) p = some (es.drop k) ∧ EndsTo w wr w.heap.size es rows k) (fun _ t _ => rows - (intOf t).toNat)
  case atStart => exact ⟨0, 0, by omega, by omega, rfl, rfl, by simpa using hes, H0.out⟩
  case round =>
    obtain ⟨k, p, hk, hp, rfl, rfl, hse, hto⟩ := hrel
    clear H0 hmk hC hes
    by_cases hlt : k < rows
    · obtain ⟨m, v, hm, hd, hfit, hek, hse'⟩ := strEnds_step hlt hse
      have hdl := dec_le (l.drop p)
      rw [hd, List.length_drop] at hdl
      have hdl' : m + p ≤ n := by simp only at hdl; omega
      have hpn : p < n := by omega
      have hat' := hat.below (hto.below.mono hB)
      obtain ⟨b, off, ha, hbB, hcell⟩ := hat'.addr (by omega)
      subst ha
      have hbox := hto.box
      obtain ⟨v0, hv0⟩ := hto.there k hlt
      have hfr := hto.open_ k hlt
      have hst := hto.step hlt
      rw [hek] at hst
      simp only [Int.natCast_add] at hst
      have Hst := hide hst
      have Hse := hide hse'
      have hcut : ∀ j (hj : j < (l.drop p).length), wr.cell? ⟨b, off + p + j, none⟩ = some (.int .u8 ((l.drop p)[j]).toNat) := by
        intro j hj
        rw [List.length_drop] at hj
        have := cells_of_at (w := wr) (b := b) (off := off) (l := l) (fun i hi => hcell i (by omega)) (p + j) (by omega)
        rw [Nat.add_assoc, this]
        simp
      have hkk : Calls Tryf.prog 22 #[.slice (some ⟨b, off + p, none⟩) (n - p) (c - p)] wr (fun e w' => e = .returned (.tuple #[.int .u64 (v : Int), .int .i64 (m : Int)]) ∧ w' = wr) := by
        have h := Tryf.binary_Uvarint b (off + p) (n - p) (c - p) (l.drop p) wr (by simp [hl]) hcut
        rw [hd] at h
        exact h
      have Hkk := hide hkk
      clear hst hse' hse hto hat hat' hcell hcut hkk hek hd hdl
      have t1 : ¬ (m : Int) ≤ 0 := by omega
      go_wp2_with fail
      refine Hkk.out.mono ?_
      rintro e w' ⟨rfl, rfl⟩
      go_wp2
      go_roundw
      case rel => exact ⟨k + 1, p + (m + v), by omega, by omega, by go_num, by go_num, Hse.out, Hst.out⟩
      case measure => simp [intOf]; omega
    · obtain rfl : k = rows := by omega
      rw [Nat.sub_self] at hse
      have hp' := strEnds_last hse
      have hne : ((p : Int) != (n : Int)) = false := by simp; omega
      have hfin := hide (Ended.strs hto hlen)
      clear hto hse hat hp'
      go_wp2
      go_ret2
      exact hfin.out

/-- valueEnds, both ways. -/
theorem ends18 (B : Nat) (a : Option Addr) (n c rows : Nat) (width : Int) (l : List UInt8) (es : List Nat) (w : World) (hl : l.length = n) (hn : n ≤ 4398046511104) (hnc : n ≤ c) (hrows : rows ≤ 65536) (hw : 0 ≤ width ∧ width ≤ 16384) (hB : B ≤ w.heap.size) (hat : At B w a n (bytesOf l)) (hes : valEnds l rows width = some es) :
    Calls Tryf.prog 18 #[.slice a n c, .int .i64 rows, .int .i64 width] w fun e w' => Ended rows width es w e w' := by
  unfold valEnds at hes
  by_cases hp : 0 < width
  · rw [if_pos hp] at hes
    split at hes
    · rename_i hfit
      simp only [Option.some.injEq] at hes
      rw [← hes]
      exact ends_fix a n c rows width w hrows hp hw.2 (by rw [← hl]; exact hfit)
    · simp at hes
  · rw [if_neg hp] at hes
    obtain rfl : width = 0 := by omega
    exact ends_str B a n c rows l es w hl hn hnc hrows hB hat hes
end Go.Proofs.Qxb6615609aFmt
