/-
  The law 'FnSplitRowsGivesEachGroupItsRows' (function 3): what its parts share.
-/
import Derived.Test.Qxb6615609aFmtLaw3
namespace Go.Proofs.Qxb6615609aFmt
open Go.RowKit

theorem skolem {α : Type} [Inhabited α] {n : Nat} {p : Nat → α → Prop} (h : ∀ i, i < n → ∃ x, p i x) : ∃ f : Nat → α, ∀ i, i < n → p i (f i) := by
  classical
  refine ⟨fun i => if hi : i < n then Classical.choose (h i hi) else default, fun i hi => ?_⟩
  show p i (if hi : i < n then _ else _)
  rw [dif_pos hi]
  exact Classical.choose_spec (h i hi)

theorem At.congr {B : Nat} {w : World} {a : Option Addr} {n : Nat} {f g : Nat → Value} (h : At B w a n f) (e : ∀ i, i < n → f i = g i) : At B w a n g := by
  intro i hi
  obtain ⟨b, off, ha, hlt, hc⟩ := h i hi
  exact ⟨b, off, ha, hlt, by rw [← e i hi]; exact hc⟩

/-- The first that has none. -/
theorem first_stop (f : Nat → Option (List Nat)) : ∀ n, ∃ (stop : Nat) (E : Nat → List Nat), stop ≤ n ∧ (∀ s, s < stop → f s = some (E s)) ∧ (stop < n → f stop = none)
  | 0 => ⟨0, fun _ => [], Nat.le_refl _, fun s hs => by omega, fun h => by omega⟩
  | n + 1 => by
    obtain ⟨stop, E, h1, h2, h3⟩ := first_stop f n
    by_cases hlt : stop < n
    · exact ⟨stop, E, by omega, h2, fun _ => h3 hlt⟩
    · obtain rfl : stop = n := by omega
      cases hf : f stop with
      | none => exact ⟨stop, E, by omega, h2, fun _ => hf⟩
      | some es =>
        refine ⟨stop + 1, fun s => if s = stop then es else E s, Nat.le_refl _, fun s hs => ?_, fun h => by omega⟩
        by_cases e : s = stop
        · subst e; simp [hf]
        · simp only [e, if_false]; exact h2 s (by omega)

/-- An owned row, by its cells. -/
theorem row_of_own {w : World} {B : Nat} {v : Value} {n : Nat} {vs : Nat → Value} (h : w.ownsRow B 26 1 v n ((List.range n).map vs)) :
    ∃ a c, v = .slice a n c ∧ ∀ i, i < n → ∃ b, a = some ⟨b, 0, none⟩ ∧ B ≤ b ∧ b < w.heap.size ∧ w.cell? ⟨b, i, none⟩ = some (vs i) := by
  obtain ⟨hxl, ⟨rfl, hn⟩ | ⟨g, cap, cur, rfl, hg, hh, hcap, hm, hs, htake⟩⟩ := h
  · exact ⟨none, 0, by rw [hn], fun i hi => by omega⟩
  · refine ⟨some ⟨g, 0, none⟩, cap, rfl, fun i hi => ⟨g, rfl, by omega, (Array.getElem?_eq_some_iff.1 hh).1, ?_⟩⟩
    have hi' : (cur.toList.take (n * 1))[i]? = ((List.range n).map vs)[i]? := by rw [htake]
    rw [List.getElem?_take, if_pos (by omega)] at hi'
    have hb : ((List.range n).map vs)[i]? = some (vs i) := by simp [hi]
    rw [hb] at hi'
    simp only [World.cell?, hh]
    simpa using hi'

theorem below_drawn {w W : World} (hW : W = { w with drawn := W.drawn }) : Below w.heap.size w W := by rw [hW]; exact ⟨rfl, rfl, rfl, Nat.le_refl _, fun _ _ => rfl⟩

/-- zzRowValues has read the values: a new row of them; nothing that was there has turned. -/
def Valued2 (vs : Nat → Value) (rows : Nat) (w : World) (e : Ending) (w' : World) : Prop :=
  ∃ a c, e = .returned (.tuple #[.slice a rows c, .bool true]) ∧ Below w.heap.size w w' ∧ ∀ i, i < rows → ∃ b, a = some ⟨b, 0, none⟩ ∧ w.heap.size ≤ b ∧ b < w'.heap.size ∧ w'.cell? ⟨b, i, none⟩ = some (vs i)

theorem vals8_at (B : Nat) (a : Option Addr) (n c rows : Nat) (width : Int) (l : List UInt8) (es : List Nat) (w : World) (hl : l.length = n) (hn : n ≤ 1099511627776) (hnc : n ≤ c) (hrows : rows ≤ 131072) (hw : 0 ≤ width ∧ width ≤ 16384) (hB : B ≤ w.heap.size) (hat : At B w a n (bytesOf l)) (hes : valEnds l rows width = some es)
    (W : World) (hW : W = { w with drawn := W.drawn }) : Calls Tryf.prog 8 #[.slice a n c, .int .i64 rows, .int .i64 width] W (Valued2 (pvA a c es) rows w) := by
  have hb := below_drawn hW
  have hsz : W.heap.size = w.heap.size := by rw [hW]
  refine (vals8 B a n c rows width l es W hl hn hnc hrows hw (by omega) (hat.below (hb.mono hB)) hes).mono ?_
  rintro e w' ⟨v, rfl, hown, hb'⟩
  obtain ⟨a', c', rfl, hc⟩ := row_of_own hown
  rw [hsz] at hb' hc
  exact ⟨a', c', rfl, hb.trans hb', hc⟩

def Unread2 (w : World) (e : Ending) (w' : World) : Prop := e = .returned (.tuple #[.slice none 0 0, .bool false]) ∧ Below w.heap.size w w'

theorem vals8_bad_at (B : Nat) (a : Option Addr) (n c rows : Nat) (width : Int) (l : List UInt8) (w : World) (hl : l.length = n) (hn : n ≤ 1099511627776) (hnc : n ≤ c) (hrows : rows ≤ 131072) (hw : 0 ≤ width ∧ width ≤ 16384) (hB : B ≤ w.heap.size) (hat : At B w a n (bytesOf l)) (hes : valEnds l rows width = none)
    (W : World) (hW : W = { w with drawn := W.drawn }) : Calls Tryf.prog 8 #[.slice a n c, .int .i64 rows, .int .i64 width] W (Unread2 w) := by
  have hb := below_drawn hW
  have hsz : W.heap.size = w.heap.size := by rw [hW]
  refine (vals8_bad B a n c rows width l W hl hn hnc hrows hw (by omega) (hat.below (hb.mono hB)) hes).mono ?_
  rintro e w' ⟨rfl, hb'⟩
  rw [hsz] at hb'
  exact ⟨rfl, hb.trans hb'⟩

/-- The row of the values of one byte string, above block V. -/
def ValRow (V rows : Nat) (vs : Nat → Nat → Value) (w : World) (j : Nat) (v : Value) : Prop :=
  ∃ a c, v = .slice a rows c ∧ ∀ i, i < rows → ∃ b, a = some ⟨b, 0, none⟩ ∧ V < b ∧ b < w.heap.size ∧ w.cell? ⟨b, i, none⟩ = some (vs j i)

theorem ValRow.below {V rows : Nat} {vs : Nat → Nat → Value} {w w' : World} {j : Nat} {v : Value} (h : ValRow V rows vs w j v) (hb : Below w.heap.size w w') : ValRow V rows vs w' j v := by
  obtain ⟨a, c, hv, hc⟩ := h
  refine ⟨a, c, hv, fun i hi => ?_⟩
  obtain ⟨b, h1, h2, h3, h4⟩ := hc i hi
  exact ⟨b, h1, h2, Nat.lt_of_lt_of_le h3 hb.size, (hb.cell (p := ⟨b, i, none⟩) h3).trans h4⟩

theorem ValRow.set {V rows k : Nat} {vs : Nat → Nat → Value} {w : World} {j : Nat} {v : Value} (h : ValRow V rows vs w j v) (u : Value) : ValRow V rows vs (w.setCell ⟨V, k, none⟩ u) j v := by
  obtain ⟨a, c, hv, hc⟩ := h
  refine ⟨a, c, hv, fun i hi => ?_⟩
  obtain ⟨b, h1, h2, h3, h4⟩ := hc i hi
  exact ⟨b, h1, h2, by rw [World.size_setCell]; exact h3, by rw [World.cell?_setCell_other _ _ _ _ (by intro c; injection c; omega)]; exact h4⟩

/-- What the clones come to, by functions. -/
theorem cloned_at {f : Nat → Value} {n : Nat} {w w' : World} {a' : Option Addr} (h : ∀ i, i < n → ∃ b, a' = some ⟨b, 0, none⟩ ∧ w.heap.size ≤ b ∧ b < w'.heap.size ∧ w'.cell? ⟨b, i, none⟩ = some (f i)) : At w'.heap.size w' a' n f := by
  intro i hi
  obtain ⟨b, h1, _, h3, h4⟩ := h i hi
  exact ⟨b, 0, h1, h3, by rw [Nat.zero_add]; exact h4⟩

theorem cloned_rows_at {L : Nat → List UInt8} {dn : Nat → Nat} {n : Nat} {w w' : World} {a' : Option Addr} (hd : ∀ s, s < n → dn s = (L s).length)
    (h : 0 < n → ∃ b, a' = some ⟨b, 0, none⟩ ∧ w.heap.size ≤ b ∧ b < w'.heap.size ∧ ∀ i, i < n → ∃ v, w'.cell? ⟨b, i, none⟩ = some v ∧ RowOf (w.heap.size + 1) L w' i v) :
    ∃ (ma : Nat → Option Addr) (mc : Nat → Nat), At w'.heap.size w' a' n (fun s => .slice (ma s) (dn s) (mc s)) ∧ ∀ s, s < n → At w'.heap.size w' (ma s) (dn s) (bytesOf (L s)) ∧ dn s ≤ mc s := by
  rcases Nat.eq_zero_or_pos n with h0 | h0
  · subst h0
    exact ⟨fun _ => none, fun _ => 0, fun i hi => by omega, fun i hi => by omega⟩
  obtain ⟨b, ha, _, hlt, hv⟩ := h h0
  have h2 : ∀ i, i < n → ∃ x : Option Addr × Nat, w'.cell? ⟨b, i, none⟩ = some (.slice x.1 (dn i) x.2) ∧ At w'.heap.size w' x.1 (dn i) (bytesOf (L i)) ∧ dn i ≤ x.2 := by
    intro i hi
    obtain ⟨v, hc, a2, c2, rfl, hl, hown⟩ := hv i hi
    rw [← hd i hi] at hc hl
    refine ⟨(a2, c2), hc, fun j hj => ?_, hl⟩
    rw [hd i hi] at hj
    obtain ⟨b2, k1, k2, k3, k4⟩ := hown j hj
    exact ⟨b2, 0, k1, k3, by rw [Nat.zero_add]; exact k4⟩
  obtain ⟨f, hf⟩ := skolem h2
  exact ⟨fun i => (f i).1, fun i => (f i).2, fun i hi => ⟨b, 0, ha, hlt, by rw [Nat.zero_add]; exact (hf i hi).1⟩, fun i hi => (hf i hi).2⟩

theorem valrows_at {V rows n k : Nat} {vs : Nat → Nat → Value} {w wr : World} (h : RowTo w wr V (ValRow V rows vs) n k) :
    ∃ (va : Nat → Option Addr) (vc : Nat → Nat), At wr.heap.size wr (some ⟨V, 0, none⟩) k (fun s => .slice (va s) rows (vc s)) ∧ ∀ s, s < k → At wr.heap.size wr (va s) rows (vs s) := by
  have h2 : ∀ i, i < k → ∃ x : Option Addr × Nat, wr.cell? ⟨V, i, none⟩ = some (.slice x.1 rows x.2) ∧ At wr.heap.size wr x.1 rows (vs i) := by
    intro i hi
    obtain ⟨v, hc, a2, c2, rfl, hown⟩ := h.done i hi
    refine ⟨(a2, c2), hc, fun j hj => ?_⟩
    obtain ⟨b2, k1, k2, k3, k4⟩ := hown j hj
    exact ⟨b2, 0, k1, k3, by rw [Nat.zero_add]; exact k4⟩
  obtain ⟨f, hf⟩ := skolem h2
  exact ⟨fun i => (f i).1, fun i => (f i).2, fun i hi => ⟨V, 0, rfl, h.lt, by rw [Nat.zero_add]; exact (hf i hi).1⟩, fun i hi => (hf i hi).2⟩
end Go.Proofs.Qxb6615609aFmt
