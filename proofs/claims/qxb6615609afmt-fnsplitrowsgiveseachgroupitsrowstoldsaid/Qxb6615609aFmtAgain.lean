/-
  PLAIN LAW: the pieces that SplitRows lays one behind the other read again as the same pieces.
-/
import Derived.Test.Qxb6615609aFmtSplitA
namespace Go.Proofs.Qxb6615609aFmt

/-- What is read of a varint hangs on the bytes that it takes alone. -/
theorem from_local : ∀ (l : List UInt8) (i acc v n : Nat), Lib.uvarintFrom i acc l = (v, (n : Int)) → 0 < n → ∃ m, n = i + m ∧ 0 < m ∧ m ≤ l.length ∧ ∀ r, Lib.uvarintFrom i acc (l.take m ++ r) = (v, (n : Int))
  | [], i, acc, v, n, h, hn => by
    simp only [Lib.uvarintFrom, Prod.mk.injEq] at h
    omega
  | b :: t, i, acc, v, n, h, hn => by
    simp only [Lib.uvarintFrom] at h
    split at h
    · simp only [Prod.mk.injEq] at h; omega
    · rename_i h10
      split at h
      · rename_i h128
        split at h
        · simp only [Prod.mk.injEq] at h; omega
        · rename_i h9
          simp only [Prod.mk.injEq] at h
          refine ⟨1, by omega, by omega, by simp, fun r => ?_⟩
          simp only [List.take_succ_cons, List.take_zero, List.cons_append, List.nil_append, Lib.uvarintFrom]
          rw [if_neg h10, if_pos h128, if_neg h9, h.1, h.2]
      · rename_i h128
        obtain ⟨m, hm, hm0, hml, hr⟩ := from_local t (i + 1) _ v n h hn
        refine ⟨m + 1, by omega, by omega, by simpa using hml, fun r => ?_⟩
        simp only [List.take_succ_cons, List.cons_append, Lib.uvarintFrom]
        rw [if_neg h10, if_neg h128]
        exact hr r

theorem dec_local {l : List UInt8} {v m : Nat} (h : Lib.uvarintDec l = (v, (m : Int))) (hm : 0 < m) : m ≤ l.length ∧ ∀ r, Lib.uvarintDec (l.take m ++ r) = (v, (m : Int)) := by
  obtain ⟨m', hm', _, hl, hr⟩ := from_local l 0 0 v m h hm
  obtain rfl : m' = m := by omega
  exact ⟨hl, hr⟩

/-- One String, just. -/
def Good (q : List UInt8) : Prop := ∃ m v : Nat, 0 < m ∧ q.length = m + v ∧ ∀ r, Lib.uvarintDec (q ++ r) = (v, (m : Int))

/-- Pieces, one behind the other. -/
def cat (q : Nat → List UInt8) (k : Nat) : List UInt8 := (List.range k).flatMap q
theorem cat_succ (q : Nat → List UInt8) (k : Nat) : cat q (k + 1) = cat q k ++ q k := by simp [cat, List.range_succ]
theorem cat_add (q : Nat → List UInt8) (k : Nat) : ∀ r, ∃ rest, cat q (k + r) = cat q k ++ rest
  | 0 => ⟨[], by simp⟩
  | r + 1 => by
    obtain ⟨rest, h⟩ := cat_add q k r
    exact ⟨rest ++ q (k + r), by rw [← Nat.add_assoc, cat_succ, h, List.append_assoc]⟩
theorem cat_cut (q : Nat → List UInt8) {k n : Nat} (h : k < n) : ∃ rest, cat q n = cat q k ++ (q k ++ rest) := by
  obtain ⟨rest, hr⟩ := cat_add q (k + 1) (n - (k + 1))
  exact ⟨rest, by rw [← List.append_assoc, ← cat_succ, ← hr]; congr 1; omega⟩

theorem cat_ends (q : Nat → List UInt8) (n : Nat) (hq : ∀ i, i < n → Good (q i)) : ∀ r k, k + r = n → strEnds (cat q n) r (cat q k).length = some ((List.range r).map fun i => (cat q (k + i + 1)).length)
  | 0, k, h => by
    obtain rfl : k = n := by omega
    simp [strEnds]
  | r + 1, k, h => by
    have hk : k < n := by omega
    obtain ⟨m, v, hm, hlen, hdec'⟩ := hq k hk
    obtain ⟨rest, hr⟩ := cat_cut q hk
    have hd : (cat q n).drop (cat q k).length = q k ++ rest := by rw [hr, List.drop_left]
    have hdec : Lib.uvarintDec ((cat q n).drop (cat q k).length) = (v, (m : Int)) := by rw [hd]; exact hdec' _
    have hl : (cat q n).length = (cat q k).length + ((q k).length + rest.length) := by rw [hr]; simp
    have hnext : (cat q k).length + (m + v) = (cat q (k + 1)).length := by rw [cat_succ, List.length_append]; omega
    have ih := cat_ends q n hq r (k + 1) (by omega)
    simp only [strEnds, hdec]
    rw [if_neg (by simp only [Int.toNat_natCast]; omega)]
    simp only [Int.toNat_natCast]
    rw [hnext, ih]
    simp only [Option.map_some, List.range_succ_eq_map, List.map_cons, List.map_map, Nat.add_zero, Option.some.injEq, List.cons.injEq, true_and]
    apply List.map_congr_left
    intro i _
    simp only [Function.comp]
    congr 2
    omega

/-- Where all pieces end. -/
def catEnds (q : Nat → List UInt8) (n : Nat) : List Nat := (List.range n).map fun i => (cat q (i + 1)).length

theorem endAt_cat (q : Nat → List UInt8) (n j : Nat) (hj : j < n) : endAt (catEnds q n) j = (cat q (j + 1)).length ∧ endAt (catEnds q n) ((j : Int) - 1) = (cat q j).length := by
  have g : ∀ k, k < n → (catEnds q n).getD k 0 = (cat q (k + 1)).length := by
    intro k hk
    simp [catEnds, List.getD_eq_getElem?_getD, List.getElem?_range hk]
  refine ⟨?_, ?_⟩
  · unfold endAt
    rw [if_neg (by omega), Int.toNat_natCast, g j hj]
  · unfold endAt
    split
    · have : j = 0 := by omega
      subst this
      simp [cat]
    · rw [show ((j : Int) - 1).toNat = j - 1 by omega, g (j - 1) (by omega)]
      congr 2
      omega

/-- Piece i of l. -/
def pieceOf (l : List UInt8) (es : List Nat) (i : Int) : List UInt8 := (l.take (endAt es i)).drop (endAt es (i - 1))

theorem pieceTo_cat (l : List UInt8) (es : List Nat) (z : Nat → Int) (k : Nat) : pieceTo l es z k = cat (fun i => pieceOf l es (z i)) k := rfl

theorem piece_cat (q : Nat → List UInt8) (n j : Nat) (hj : j < n) : pieceOf (cat q n) (catEnds q n) j = q j := by
  obtain ⟨e1, e2⟩ := endAt_cat q n j hj
  obtain ⟨rest, hr⟩ := cat_cut q hj
  unfold pieceOf
  rw [e1, e2, hr, cat_succ, ← List.append_assoc, List.take_left, List.drop_left]

/-- Where reading stands ahead of String k. -/
theorem strEnds_at {l : List UInt8} {rows : Nat} {es : List Nat} (h : strEnds l rows 0 = some es) : ∀ k, k ≤ rows → strEnds l (rows - k) (endAt es ((k : Int) - 1)) = some (es.drop k)
  | 0, _ => by simpa [endAt] using h
  | k + 1, hk => by
    have ih := strEnds_at h k (by omega)
    obtain ⟨m, v, _, _, _, he, hn⟩ := strEnds_step (by omega) ih
    have : endAt es (((k + 1 : Nat) : Int) - 1) = endAt es ((k : Int) - 1) + (m + v) := by
      rw [← he]
      unfold endAt
      rw [if_neg (by omega)]
      congr 1
      omega
    rw [this]
    exact hn

theorem good_piece {l : List UInt8} {rows : Nat} {es : List Nat} (h : strEnds l rows 0 = some es) (k : Nat) (hk : k < rows) : Good (pieceOf l es k) := by
  obtain ⟨m, v, hm, hd, hfit, he, _⟩ := strEnds_step hk (strEnds_at h k (by omega))
  have e1 : endAt es (k : Int) = endAt es ((k : Int) - 1) + (m + v) := by
    rw [← he]
    unfold endAt
    rw [if_neg (by omega), Int.toNat_natCast]
  obtain ⟨hml, hloc⟩ := dec_local hd hm
  have hp : pieceOf l es k = (l.drop (endAt es ((k : Int) - 1))).take (m + v) := by
    unfold pieceOf
    rw [e1, List.drop_take]
    congr 1
    omega
  refine ⟨m, v, hm, ?_, fun r => ?_⟩
  · rw [hp, List.length_take, List.length_drop]; omega
  · rw [hp]
    have : (l.drop (endAt es ((k : Int) - 1))).take (m + v) = (l.drop (endAt es ((k : Int) - 1))).take m ++ ((l.drop (endAt es ((k : Int) - 1))).drop m).take v := by
      rw [List.take_add]
    rw [this, List.append_assoc]
    exact hloc _

theorem fix_piece {l : List UInt8} {rows : Nat} {width : Int} {es : List Nat} (hw : 0 < width) (h : valEnds l rows width = some es) (k : Nat) (hk : k < rows) : (pieceOf l es k).length = width.toNat := by
  have hb := valEnds_bounds h k (by omega) (by omega)
  unfold valEnds at h
  rw [if_pos hw] at h
  split at h
  · simp only [Option.some.injEq] at h
    have g : ∀ q, q < rows → es.getD q 0 = (q + 1) * width.toNat := by
      intro q hq
      rw [← h, List.getD_eq_getElem?_getD]
      simp [List.getElem?_range hq]
    have e1 : endAt es (k : Int) = (k + 1) * width.toNat := by
      unfold endAt
      rw [if_neg (by omega), Int.toNat_natCast, g k hk]
    have e2 : endAt es ((k : Int) - 1) = k * width.toNat := by
      unfold endAt
      split
      · have : k = 0 := by omega
        subst this; simp
      · rw [show ((k : Int) - 1).toNat = k - 1 by omega, g (k - 1) (by omega)]
        congr 1
        omega
    unfold pieceOf
    rw [List.length_drop, List.length_take, e1, e2]
    rw [e1] at hb
    rw [Nat.min_eq_left hb.2, Nat.add_mul]
    omega
  · simp at h

theorem cat_fix (q : Nat → List UInt8) (d : Nat) : ∀ k, (∀ i, i < k → (q i).length = d) → (cat q k).length = k * d
  | 0, _ => by simp [cat]
  | k + 1, h => by
    rw [cat_succ, List.length_append, cat_fix q d k (fun i hi => h i (by omega)), h k (by omega), Nat.add_mul]
    omega

/-- The pieces of a group read again as those pieces. -/
theorem again {l : List UInt8} {rows : Nat} {width : Int} {es : List Nat} (hw : 0 ≤ width) (h : valEnds l rows width = some es) (z : Nat → Int) (k : Nat) (hz : ∀ i, i < k → 0 ≤ z i ∧ z i < rows) :
    ∃ es', valEnds (pieceTo l es z k) k width = some es' ∧ ∀ i, i < k → pieceOf (pieceTo l es z k) es' (i : Nat) = pieceOf l es (z i) := by
  refine ⟨catEnds (fun i => pieceOf l es (z i)) k, ?_, fun i hi => ?_⟩
  · rw [pieceTo_cat]
    unfold valEnds
    by_cases hp : 0 < width
    · have hq : ∀ i, i < k → (pieceOf l es (z i)).length = width.toNat := by
        intro i hi
        obtain ⟨h0, h1⟩ := hz i hi
        obtain ⟨j, hj⟩ := Int.eq_ofNat_of_zero_le h0
        rw [hj]
        exact fix_piece hp h j (by omega)
      have hl := cat_fix _ width.toNat k hq
      rw [if_pos hp, if_pos (by rw [hl, Int.natCast_mul, Int.toNat_of_nonneg hw])]
      congr 1
      unfold catEnds
      apply List.map_congr_left
      intro i hi
      have hi' : i < k := List.mem_range.1 hi
      rw [cat_fix _ width.toNat (i + 1) (fun j hj => hq j (by omega))]
    · rw [if_neg hp]
      have hs : strEnds l rows 0 = some es := by unfold valEnds at h; rwa [if_neg hp] at h
      have := cat_ends (fun i => pieceOf l es (z i)) k (fun i hi => by
        obtain ⟨h0, h1⟩ := hz i hi
        obtain ⟨j, hj⟩ := Int.eq_ofNat_of_zero_le h0
        show Good (pieceOf l es (z i))
        rw [hj]
        exact good_piece hs j (by omega)) k 0 (by omega)
      simpa [cat, catEnds] using this
  · rw [pieceTo_cat]
    exact piece_cat _ k i hi
end Go.Proofs.Qxb6615609aFmt
