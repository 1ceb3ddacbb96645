/-
  SplitRows (function 10): what memory holds between its rounds; the functions that it calls (17, 21, 23).
-/
import Derived.Test.Qxb6615609aFmtEnds
namespace Go.Proofs.Qxb6615609aFmt
open Go.RowKit

theorem info26 : (Tryf.prog.info? 26).map (fun i => (i.zero, i.size, i.bytes)) = some (some (.slice none 0 0), 1, 24) := by kernel_rfl
theorem info23 : (Tryf.prog.info? 23).map (fun i => (i.zero, i.size, i.bytes)) = some (some (.slice none 0 0), 1, 24) := by kernel_rfl
theorem info5 : (Tryf.prog.info? 5).map (fun i => (i.zero, i.size, i.bytes)) = some (some (.int .u8 0), 1, 1) := by kernel_rfl

theorem mk29 (n : Nat) (hn : n ≤ 1048576) : ∃ C : Array Value, C.size = n ∧ ∀ w : World, (Instr.makeSlice 29 (.int .i64 (n : Int)) (.int .i64 (n : Int))).run Tryf.prog w = .ok (.slice (some ⟨w.heap.size, 0, none⟩) n n) (w.alloc (.cells C 23)) :=
  ⟨madeCells #[.slice none 0 0] n, size_madeCells _ _, fun w => run_make_row' (P := Tryf.prog) 29 23 (.slice none 0 0) 24 Tryf.underlying29 info23 rfl .i64 .i64 n (by omega) (by omega) w⟩
theorem mk23 (n : Nat) (hn : n ≤ 1048576) : ∃ C : Array Value, C.size = n ∧ ∀ w : World, (Instr.makeSlice 23 (.int .i64 (n : Int)) (.int .i64 (n : Int))).run Tryf.prog w = .ok (.slice (some ⟨w.heap.size, 0, none⟩) n n) (w.alloc (.cells C 26)) :=
  ⟨madeCells #[.slice none 0 0] n, size_madeCells _ _, fun w => run_make_row' (P := Tryf.prog) 23 26 (.slice none 0 0) 24 Tryf.underlying23 info26 rfl .i64 .i64 n (by omega) (by omega) w⟩

/-- The bytes of the first k values that the places z name, one behind the other. -/
def pieceTo (l : List UInt8) (es : List Nat) (z : Nat → Int) (k : Nat) : List UInt8 := (List.range k).flatMap fun i => (l.take (endAt es (z i))).drop (endAt es (z i - 1))
theorem pieceTo_succ (l : List UInt8) (es : List Nat) (z : Nat → Int) (k : Nat) : pieceTo l es z (k + 1) = pieceTo l es z k ++ (l.take (endAt es (z k))).drop (endAt es (z k - 1)) := by
  simp [pieceTo, List.range_succ]

/-- Bytes in memory that the call has made: from block lo on. -/
def Own (lo : Nat) (w : World) (a : Option Addr) (l : List UInt8) : Prop := ∀ i, i < l.length → ∃ b, a = some ⟨b, 0, none⟩ ∧ lo ≤ b ∧ b < w.heap.size ∧ w.cell? ⟨b, i, none⟩ = some (bytesOf l i)

/-- What SplitRows has made so far. Block B0: the row of groups; block B0 + 1 + g: group g's row of byte strings; of those that P names the bytes are told. -/
structure SpTo (w wr : World) (B0 ng nd : Nat) (pc : Nat → Nat → List UInt8) (P : Nat → Nat → Prop) : Prop where
  below : Below B0 w wr
  size : B0 + 1 + ng ≤ wr.heap.size
  rows : ∀ g, g < ng → wr.cell? ⟨B0, g, none⟩ = some (.slice (some ⟨B0 + 1 + g, 0, none⟩) nd nd)
  there : ∀ g s, g < ng → s < nd → ∃ v, wr.cell? ⟨B0 + 1 + g, s, none⟩ = some v
  open_ : ∀ g s, g < ng → s < nd → wr.frozen? ⟨B0 + 1 + g, s, none⟩ = false
  done : ∀ g s, g < ng → s < nd → P g s → ∃ a c, wr.cell? ⟨B0 + 1 + g, s, none⟩ = some (.slice a (pc g s).length c) ∧ (pc g s).length ≤ c ∧ Own (B0 + 1 + ng) wr a (pc g s)

theorem SpTo.grow {w wr wr' : World} {B0 ng nd : Nat} {pc : Nat → Nat → List UInt8} {P : Nat → Nat → Prop} (h : SpTo w wr B0 ng nd pc P) (hb : Below wr.heap.size wr wr') : SpTo w wr' B0 ng nd pc P where
  below := h.below.trans (hb.mono (by have := h.size; omega))
  size := Nat.le_trans h.size hb.size
  rows := fun g hg => (hb.cell (p := ⟨B0, g, none⟩) (by have := h.size; show B0 < _; omega)).trans (h.rows g hg)
  there := fun g s hg hs => by
    obtain ⟨v, hv⟩ := h.there g s hg hs
    exact ⟨v, (hb.cell (p := ⟨B0 + 1 + g, s, none⟩) (by have := h.size; show B0 + 1 + g < _; omega)).trans hv⟩
  open_ := fun g s hg hs => (hb.frozen (p := ⟨B0 + 1 + g, s, none⟩) (by have := h.size; show B0 + 1 + g < _; omega)).trans (h.open_ g s hg hs)
  done := fun g s hg hs hP => by
    obtain ⟨a, c, hc, hl, ho⟩ := h.done g s hg hs hP
    refine ⟨a, c, (hb.cell (p := ⟨B0 + 1 + g, s, none⟩) (by have := h.size; show B0 + 1 + g < _; omega)).trans hc, hl, fun i hi => ?_⟩
    obtain ⟨b, ha, hlo, hhi, hcell⟩ := ho i hi
    exact ⟨b, ha, hlo, Nat.lt_of_lt_of_le hhi hb.size, (hb.cell (p := ⟨b, i, none⟩) hhi).trans hcell⟩

theorem SpTo.store {w wr : World} {B0 ng nd : Nat} {pc : Nat → Nat → List UInt8} {P : Nat → Nat → Prop} (h : SpTo w wr B0 ng nd pc P) {g s : Nat} (hg : g < ng) (hs : s < nd) {a : Option Addr} {c : Nat}
    (hl : (pc g s).length ≤ c) (ho : Own (B0 + 1 + ng) wr a (pc g s)) (P' : Nat → Nat → Prop) (hP : ∀ g' s', P' g' s' → P g' s' ∨ (g' = g ∧ s' = s)) :
    SpTo w (wr.setCell ⟨B0 + 1 + g, s, none⟩ (.slice a (pc g s).length c)) B0 ng nd pc P' where
  below := h.below.setCell (by show B0 ≤ B0 + 1 + g; omega) _
  size := by rw [World.size_setCell]; exact h.size
  rows := fun g' hg' => by rw [World.cell?_setCell_other _ _ _ _ (by intro e; injection e; omega)]; exact h.rows g' hg'
  there := fun g' s' hg' hs' => by
    obtain ⟨v, hv⟩ := h.there g' s' hg' hs'
    by_cases e : g' = g ∧ s' = s
    · obtain ⟨rfl, rfl⟩ := e
      exact ⟨_, World.cell?_setCell_same _ _ _ hv⟩
    · exact ⟨v, by rw [World.cell?_setCell_other _ _ _ _ (by intro e'; injection e'; omega)]; exact hv⟩
  open_ := fun g' s' hg' hs' => by rw [World.frozen?_setCell]; exact h.open_ g' s' hg' hs'
  done := fun g' s' hg' hs' hP' => by
    have own : ∀ (a' : Option Addr) (l : List UInt8), Own (B0 + 1 + ng) wr a' l → Own (B0 + 1 + ng) (wr.setCell ⟨B0 + 1 + g, s, none⟩ (.slice a (pc g s).length c)) a' l := by
      intro a' l ho' i hi
      obtain ⟨b, ha, hlo, hhi, hc⟩ := ho' i hi
      exact ⟨b, ha, hlo, by rw [World.size_setCell]; exact hhi, by rw [World.cell?_setCell_other _ _ _ _ (by intro e'; injection e'; omega)]; exact hc⟩
    by_cases e : g' = g ∧ s' = s
    · obtain ⟨rfl, rfl⟩ := e
      obtain ⟨v, hv⟩ := h.there g' s' hg' hs'
      exact ⟨a, c, World.cell?_setCell_same _ _ _ hv, hl, own _ _ ho⟩
    · rcases hP g' s' hP' with hP1 | hP1
      · obtain ⟨a', c', hc', hl', ho'⟩ := h.done g' s' hg' hs' hP1
        exact ⟨a', c', by rw [World.cell?_setCell_other _ _ _ _ (by intro e'; injection e'; omega)]; exact hc', hl', own _ _ ho'⟩
      · exact absurd hP1 e

theorem SpTo.weaken {w wr : World} {B0 ng nd : Nat} {pc : Nat → Nat → List UInt8} {P P' : Nat → Nat → Prop} (h : SpTo w wr B0 ng nd pc P) (hP : ∀ g s, g < ng → s < nd → P' g s → P g s) : SpTo w wr B0 ng nd pc P' :=
  ⟨h.below, h.size, h.rows, h.there, h.open_, fun g s hg hs hp => h.done g s hg hs (hP g s hg hs hp)⟩

/-- A row that the call owns, as 'Own' says it. -/
theorem own_of_row {w : World} {B1 lo : Nat} {v : Value} {l : List UInt8} (h : w.ownsRow B1 5 1 v l.length (Lib.byteCells l)) (hlo : lo ≤ B1) : ∃ a c, v = .slice a l.length c ∧ l.length ≤ c ∧ Own lo w a l := by
  obtain ⟨hxl, ⟨rfl, hn⟩ | ⟨g, cap, cur, rfl, hg, hh, hcap, hm, hs, htake⟩⟩ := h
  · exact ⟨none, 0, by rw [hn], by omega, fun i hi => by omega⟩
  · refine ⟨some ⟨g, 0, none⟩, cap, rfl, hcap, fun i hi => ⟨g, rfl, by omega, (Array.getElem?_eq_some_iff.1 hh).1, ?_⟩⟩
    have hi' : (cur.toList.take (l.length * 1))[i]? = (Lib.byteCells l)[i]? := by rw [htake]
    rw [List.getElem?_take, if_pos (by omega)] at hi'
    have hb : (Lib.byteCells l)[i]? = some (bytesOf l i) := by
      simp [Lib.byteCells, bytesOf, List.getD_eq_getElem?_getD, List.getElem?_eq_getElem hi]
    rw [hb] at hi'
    simp only [World.cell?, hh]
    simpa using hi'

/-- Behind k rounds of the loop that makes the groups' rows. -/
structure MkTo (w wr : World) (B0 ng nd k : Nat) : Prop where
  below : Below B0 w wr
  size : wr.heap.size = B0 + 1 + k
  rows : ∀ g, g < k → wr.cell? ⟨B0, g, none⟩ = some (.slice (some ⟨B0 + 1 + g, 0, none⟩) nd nd)
  row : ∀ g, g < ng → ∃ v, wr.cell? ⟨B0, g, none⟩ = some v
  rowOpen : ∀ g, g < ng → wr.frozen? ⟨B0, g, none⟩ = false
  there : ∀ g s, g < k → s < nd → ∃ v, wr.cell? ⟨B0 + 1 + g, s, none⟩ = some v
  open_ : ∀ g s, g < k → s < nd → wr.frozen? ⟨B0 + 1 + g, s, none⟩ = false

theorem MkTo.start (w : World) (ng nd : Nat) (C : Array Value) (hC : C.size = ng) : MkTo w (w.alloc (.cells C 23)) w.heap.size ng nd 0 where
  below := (Below.refl _ _).alloc (Nat.le_refl _) _
  size := by simp
  rows := by intro g hg; omega
  row := by intro g hg; exact ⟨C[g]'(by omega), by rw [World.cell?_alloc_new]; simp [hC, hg]⟩
  rowOpen := by intro g hg; simp
  there := by intro g s hg; omega
  open_ := by intro g s hg; omega

theorem MkTo.step {w wr : World} {B0 ng nd k : Nat} (h : MkTo w wr B0 ng nd k) (hk : k < ng) (C : Array Value) (hC : C.size = nd) :
    MkTo w ((wr.setCell ⟨B0, k, none⟩ (.slice (some ⟨wr.heap.size, 0, none⟩) nd nd)).alloc (.cells C 26)) B0 ng nd (k + 1) := by
  have hsz : (wr.setCell ⟨B0, k, none⟩ (.slice (some ⟨wr.heap.size, 0, none⟩) nd nd)).heap.size = B0 + 1 + k := by rw [World.size_setCell, h.size]
  have hw := h.size
  refine ⟨(h.below.setCell (Nat.le_refl _) _).alloc (by omega) _, by rw [World.size_alloc, hsz]; omega, fun g hg => ?_, fun g hg => ?_, fun g hg => ?_, fun g s hg hs => ?_, fun g s hg hs => ?_⟩
  · rw [World.cell?_alloc_past _ _ _ (by omega)]
    by_cases e : g = k
    · subst e
      obtain ⟨v, hv⟩ := h.row g hk
      rw [World.cell?_setCell_same _ _ _ hv, hw]
    · rw [World.cell?_setCell_other _ _ _ _ (by intro e'; injection e'; omega)]
      exact h.rows g (by omega)
  · rw [World.cell?_alloc_past _ _ _ (by omega)]
    obtain ⟨v, hv⟩ := h.row g hg
    by_cases e : g = k
    · subst e
      exact ⟨_, World.cell?_setCell_same _ _ _ hv⟩
    · exact ⟨v, by rw [World.cell?_setCell_other _ _ _ _ (by intro e'; injection e'; omega)]; exact hv⟩
  · rw [World.frozen?_alloc_old _ _ _ (by show B0 ≠ _; omega), World.frozen?_setCell]
    exact h.rowOpen g hg
  · by_cases e : g = k
    · subst e
      refine ⟨C[s]'(by omega), ?_⟩
      rw [← hsz, World.cell?_alloc_new]
      simp [hC, hs]
    · rw [World.cell?_alloc_past _ _ _ (by omega), World.cell?_setCell_other _ _ _ _ (by intro e'; injection e'; omega)]
      exact h.there g s (by omega) hs
  · by_cases e : g = k
    · subst e
      rw [← hsz]
      exact World.frozen?_alloc_new _ _ _ _
    · rw [World.frozen?_alloc_old _ _ _ (by show B0 + 1 + g ≠ _; omega), World.frozen?_setCell]
      exact h.open_ g s (by omega) hs

theorem MkTo.full {w wr : World} {B0 ng nd : Nat} (h : MkTo w wr B0 ng nd ng) (pc : Nat → Nat → List UInt8) : SpTo w wr B0 ng nd pc (fun _ _ => False) :=
  ⟨h.below, by have := h.size; omega, h.rows, h.there, h.open_, fun _ _ _ _ hP => hP.elim⟩

/-! ### The functions that valueEnds hands back -/
theorem ends21 (b rows : Nat) (i width : Int) (w : World) (hw : 0 < width) (hw' : width ≤ 16384) (hr : rows ≤ 65536) (hi : -1 ≤ i) (hi' : i < rows) (hc : w.cell? ⟨b, 0, none⟩ = some (.int .i64 width)) :
    Calls Tryf.prog 21 #[.int .i64 i, .pointer (some ⟨b, 0, none⟩)] w fun e w' => e = .returned (.int .i64 ((i + 1) * width)) ∧ w' = w := by
  have hb : (i + 1) * width ≤ 65536 * 16384 := Int.mul_le_mul (by omega) hw' (by omega) (by omega)
  have hb0 : 0 ≤ (i + 1) * width := Int.mul_nonneg (by omega) (by omega)
  go_enter Tryf.func21, Tryf.ntmps21
  go_wp2
  go_ret
  exact ⟨rfl, rfl⟩

theorem ends23 (b b' rows : Nat) (es : List Nat) (i : Int) (w : World) (hi : -1 ≤ i) (hi' : i < rows) (hc : w.cell? ⟨b, 0, none⟩ = some (.slice (some ⟨b', 0, none⟩) rows rows)) (hes : ∀ j, j < rows → w.cell? ⟨b', j, none⟩ = some (.int .i64 (es.getD j 0 : Nat))) :
    Calls Tryf.prog 23 #[.int .i64 i, .pointer (some ⟨b, 0, none⟩)] w fun e w' => e = .returned (.int .i64 (endAt es i : Nat)) ∧ w' = w := by
  by_cases hneg : i < 0
  · have he : endAt es i = 0 := by simp [endAt, hneg]
    rw [he]
    go_enter Tryf.func23, Tryf.ntmps23
    go_wp2
    go_ret
    exact ⟨rfl, rfl⟩
  · obtain ⟨j, rfl⟩ := Int.eq_ofNat_of_zero_le (show 0 ≤ i by omega)
    have he : endAt es (j : Int) = es.getD j 0 := by simp [endAt, hneg]
    rw [he]
    have hcj := hes j (by omega)
    clear hes
    generalize es.getD j 0 = q at hcj
    go_enter Tryf.func23, Tryf.ntmps23
    go_wp2
    go_ret
    exact ⟨rfl, rfl⟩

/-- What a call of such a function gives, in every world that holds the same cells. -/
def GivesEnd (w : World) (f b : Nat) (es : List Nat) (i : Int) : Prop := ∀ W : World, (∀ a, W.cell? a = w.cell? a) → Calls Tryf.prog f #[.int .i64 i, .pointer (some ⟨b, 0, none⟩)] W fun e w' => e = .returned (.int .i64 (endAt es i : Nat)) ∧ w' = W

theorem EndsFn.gives {lo : Nat} {w : World} {fv : Value} {rows : Nat} {width : Int} {es : List Nat} (h : EndsFn lo w fv rows width es) (hw' : width ≤ 16384) (hr : rows ≤ 65536) :
    (∃ b, fv = .func (.func 21) #[] #[.pointer (some ⟨b, 0, none⟩)] ∧ ∀ i : Int, -1 ≤ i → i < rows → GivesEnd w 21 b es i) ∨ (∃ b, fv = .func (.func 23) #[] #[.pointer (some ⟨b, 0, none⟩)] ∧ ∀ i : Int, -1 ≤ i → i < rows → GivesEnd w 23 b es i) := by
  rcases h with ⟨h1, h2, b, h3, h4, h5, h6⟩ | ⟨h1, h2, b, b', h3, h4, h5, h6, h7, h8, h9⟩
  · refine .inl ⟨b, h5, fun i hi hi' W hW => ?_⟩
    have he : ((endAt es i : Nat) : Int) = (i + 1) * width := by
      unfold endAt
      split
      · obtain rfl : i = -1 := by omega
        simp
      · obtain ⟨j, rfl⟩ := Int.eq_ofNat_of_zero_le (show 0 ≤ i by omega)
        have hj : j < rows := by omega
        rw [h2, List.getD_eq_getElem?_getD]
        simp only [Int.toNat_natCast, List.getElem?_map, List.getElem?_range hj, Option.map_some, Option.getD_some, Int.natCast_mul, Int.toNat_of_nonneg (Int.le_of_lt h1)]
        rfl
    rw [he]
    exact ends21 b rows i width W h1 hw' hr hi hi' (by rw [hW]; exact h6)
  · exact .inr ⟨b, h7, fun i hi hi' W hW => ends23 b b' rows es i W hi hi' (by rw [hW]; exact h8) (fun j hj => by rw [hW]; exact h9 j hj)⟩

/-- The ends ascend strictly and stay within the bytes. -/
theorem valEnds_bounds {l : List UInt8} {rows : Nat} {width : Int} {es : List Nat} (h : valEnds l rows width = some es) (i : Int) (hi : 0 ≤ i) (hi' : i < rows) : endAt es (i - 1) < endAt es i ∧ endAt es i ≤ l.length := by
  obtain ⟨j, rfl⟩ := Int.eq_ofNat_of_zero_le hi
  have hj : j < rows := by omega
  have e0 : endAt es (j : Int) = es.getD j 0 := by unfold endAt; rw [if_neg (by omega)]; simp
  rw [e0]
  unfold valEnds at h
  split at h
  · rename_i hw
    split at h
    · rename_i hfit
      simp only [Option.some.injEq] at h
      have g : ∀ q, q < rows → es.getD q 0 = (q + 1) * width.toNat := by
        intro q hq
        rw [← h, List.getD_eq_getElem?_getD]
        simp [List.getElem?_range hq]
      obtain ⟨d, hd⟩ := Int.eq_ofNat_of_zero_le (Int.le_of_lt hw)
      subst hd
      have hl : l.length = rows * d := by exact_mod_cast hfit
      simp only [Int.toNat_natCast] at g
      have hdpos : 0 < d := by omega
      refine ⟨?_, ?_⟩
      · unfold endAt
        split
        · rw [g j hj]; exact Nat.mul_pos (by omega) hdpos
        · rw [show ((j : Int) - 1).toNat = j - 1 by omega, g (j - 1) (by omega), g j hj]
          exact Nat.mul_lt_mul_of_pos_right (by omega) hdpos
      · rw [g j hj, hl]
        exact Nat.mul_le_mul_right _ (by omega)
    · simp at h
  · have hs := strEnds_strict l rows 0 es h j hj
    refine ⟨?_, hs.2⟩
    unfold endAt
    split
    · have : j = 0 := by omega
      subst this
      simpa using hs.1
    · rw [show ((j : Int) - 1).toNat = j - 1 by omega]
      have h1 := hs.1
      rw [if_neg (by omega)] at h1
      exact h1

/-- checkStrings (function 17) where the table has as many widths. -/
theorem check17 (bt : Nat) (aw ad : Option Addr) (n cw cd : Nat) (w : World) (hc : w.cell? ⟨bt, 4, none⟩ = some (.slice aw n cw)) :
    Calls Tryf.prog 17 #[.pointer (some ⟨bt, 0, none⟩), .slice ad n cd] w fun e w' => e = .returned .nilIface ∧ w' = w := by
  go_enter Tryf.func17, Tryf.ntmps17
  go_wp2
  go_ret
  exact ⟨rfl, rfl⟩
end Go.Proofs.Qxb6615609aFmt
