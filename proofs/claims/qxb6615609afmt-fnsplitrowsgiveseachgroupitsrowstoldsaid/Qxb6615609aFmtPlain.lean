/-
  PLAIN LAWS, no Go in sight: varints written and read again; where the values of a byte string end.
-/
import Derived.Lib.Varint
import Derived.Lib.VarintDec
import Derived.Lib.VarintMem
namespace Go.Proofs.Qxb6615609aFmt

theorem u8n {a : Nat} (h : a < 256) : (a.toUInt8).toNat = a := Lib.toUInt8_toNat h

theorem uvarint_one {x : Nat} (h : x < 128) : Lib.uvarint x = [x.toUInt8] := Lib.uvarint_small h
theorem uvarint_two {x : Nat} (h : 128 ≤ x) (h' : x < 16384) : Lib.uvarint x = [(x % 128 + 128).toUInt8, (x / 128).toUInt8] := by
  rw [Lib.uvarint_big h, Lib.uvarint_small (by omega)]
theorem uvarint_three {x : Nat} (h : 16384 ≤ x) (h' : x < 2097152) : Lib.uvarint x = [(x % 128 + 128).toUInt8, (x / 128 % 128 + 128).toUInt8, (x / 128 / 128).toUInt8] := by
  rw [Lib.uvarint_big (by omega), Lib.uvarint_big (by omega), Lib.uvarint_small (by omega)]

theorem dec1 (b0 : UInt8) (h0 : b0.toNat < 128) (r : List UInt8) : Lib.uvarintDec (b0 :: r) = (b0.toNat, 1) := by
  simp [Lib.uvarintDec, Lib.uvarintFrom, h0]
theorem dec2 (b0 b1 : UInt8) (h0 : ¬ b0.toNat < 128) (h1 : b1.toNat < 128) (r : List UInt8) : Lib.uvarintDec (b0 :: b1 :: r) = (b0.toNat % 128 + b1.toNat * 128, 2) := by
  simp [Lib.uvarintDec, Lib.uvarintFrom, h0, h1]
theorem dec3 (b0 b1 b2 : UInt8) (h0 : ¬ b0.toNat < 128) (h1 : ¬ b1.toNat < 128) (h2 : b2.toNat < 128) (r : List UInt8) : Lib.uvarintDec (b0 :: b1 :: b2 :: r) = (b0.toNat % 128 + b1.toNat % 128 * 128 + b2.toNat * 16384, 3) := by
  simp [Lib.uvarintDec, Lib.uvarintFrom, h0, h1, h2]

/-- What is written is what is read, whatever lies behind it. -/
theorem dec_uvarint {x : Nat} (hx : x < 2097152) (r : List UInt8) : Lib.uvarintDec (Lib.uvarint x ++ r) = (x, ((Lib.uvarint x).length : Int)) := by
  by_cases h1 : x < 128
  · have e := u8n (a := x) (by omega)
    rw [uvarint_one h1]
    show Lib.uvarintDec (x.toUInt8 :: r) = (x, 1)
    rw [dec1 _ (by omega), e]
  by_cases h2 : x < 16384
  · have e1 := u8n (a := x % 128 + 128) (by omega)
    have e2 := u8n (a := x / 128) (by omega)
    rw [uvarint_two (by omega) h2]
    show Lib.uvarintDec ((x % 128 + 128).toUInt8 :: (x / 128).toUInt8 :: r) = (x, 2)
    rw [dec2 _ _ (by omega) (by omega), e1, e2]
    congr 1
    omega
  · have e1 := u8n (a := x % 128 + 128) (by omega)
    have e2 := u8n (a := x / 128 % 128 + 128) (by omega)
    have e3 := u8n (a := x / 128 / 128) (by omega)
    rw [uvarint_three (by omega) hx]
    show Lib.uvarintDec ((x % 128 + 128).toUInt8 :: (x / 128 % 128 + 128).toUInt8 :: (x / 128 / 128).toUInt8 :: r) = (x, 3)
    rw [dec3 _ _ _ (by omega) (by omega) (by omega), e1, e2, e3]
    congr 1
    omega

/-- The last byte of a varint of more than one is not nought. -/
theorem uvarint_last {x : Nat} (hx : x < 2097152) (h : 1 < (Lib.uvarint x).length) : (((Lib.uvarint x).getD ((Lib.uvarint x).length - 1) 0).toNat) ≠ 0 := by
  by_cases h1 : x < 128
  · rw [uvarint_one h1] at h; simp at h
  by_cases h2 : x < 16384
  · rw [uvarint_two (by omega) h2]
    have e2 := u8n (a := x / 128) (by omega)
    simp [e2]
    omega
  · rw [uvarint_three (by omega) hx]
    have e3 := u8n (a := x / 128 / 128) (by omega)
    simp [e3]
    omega

/-- No more bytes are read than there are. -/
theorem from_le : ∀ (l : List UInt8) (i acc : Nat), (Lib.uvarintFrom i acc l).2 ≤ (i : Int) + l.length
  | [], i, acc => by simp [Lib.uvarintFrom]
  | b :: r, i, acc => by
    have ih := from_le r (i + 1) (acc + b.toNat % 128 * 2 ^ (7 * i))
    simp only [Lib.uvarintFrom, List.length_cons]
    split
    · show -((i : Int) + 1) ≤ _; omega
    · split
      · split
        · show -((i : Int) + 1) ≤ _; omega
        · show (i : Int) + 1 ≤ _; omega
      · refine Int.le_trans ih ?_; omega

theorem dec_le (l : List UInt8) : (Lib.uvarintDec l).2 ≤ l.length := by
  have := from_le l 0 0
  simpa [Lib.uvarintDec] using this

theorem dec_nil : Lib.uvarintDec [] = (0, 0) := rfl

/-- Where the r Strings that begin at place p of l end; none: l is not just these. -/
def strEnds (l : List UInt8) : Nat → Nat → Option (List Nat)
  | 0, p => if p = l.length then some [] else none
  | r + 1, p =>
    if (Lib.uvarintDec (l.drop p)).2 ≤ 0 ∨ l.length < p + (Lib.uvarintDec (l.drop p)).2.toNat + (Lib.uvarintDec (l.drop p)).1 then none
    else (strEnds l r (p + ((Lib.uvarintDec (l.drop p)).2.toNat + (Lib.uvarintDec (l.drop p)).1))).map fun es => (p + ((Lib.uvarintDec (l.drop p)).2.toNat + (Lib.uvarintDec (l.drop p)).1)) :: es

/-- Where each of the rows values of a byte string ends, each 'width' bytes, or each a String where width is 0. -/
def valEnds (l : List UInt8) (rows : Nat) (width : Int) : Option (List Nat) :=
  if 0 < width then (if (l.length : Int) = rows * width then some ((List.range rows).map fun i => (i + 1) * width.toNat) else none) else strEnds l rows 0

/-- The end of value i; 0 for i = -1. -/
def endAt (es : List Nat) (i : Int) : Nat := if i < 0 then 0 else es.getD i.toNat 0

/-- The ends ascend and stay within l. -/
theorem strEnds_some (l : List UInt8) : ∀ (r p : Nat) (es : List Nat), strEnds l r p = some es → es.length = r ∧ (∀ i, i < r → (if i = 0 then p else es.getD (i - 1) 0) ≤ es.getD i 0 ∧ es.getD i 0 ≤ l.length)
  | 0, p, es, h => by
    simp only [strEnds] at h
    split at h
    · simp at h; subst h; exact ⟨rfl, fun i hi => by omega⟩
    · simp at h
  | r + 1, p, es, h => by
    simp only [strEnds] at h
    split at h
    · simp at h
    · rename_i hno
      simp only [Option.map_eq_some_iff] at h
      obtain ⟨es', hes, rfl⟩ := h
      obtain ⟨hl, hi⟩ := strEnds_some l r _ es' hes
      generalize hd : (Lib.uvarintDec (l.drop p)) = d at *
      refine ⟨by simp [hl], fun i hlt => ?_⟩
      cases i with
      | zero => simp; omega
      | succ i =>
        have := hi i (by omega)
        cases i with
        | zero => simpa using this
        | succ i => simpa using this

/-- The ends ascend strictly. -/
theorem strEnds_strict (l : List UInt8) : ∀ (r p : Nat) (es : List Nat), strEnds l r p = some es → ∀ i, i < r → (if i = 0 then p else es.getD (i - 1) 0) < es.getD i 0 ∧ es.getD i 0 ≤ l.length
  | 0, p, es, h => fun i hi => by omega
  | r + 1, p, es, h => by
    simp only [strEnds] at h
    split at h
    · simp at h
    · rename_i hno
      simp only [Option.map_eq_some_iff] at h
      obtain ⟨es', hes, rfl⟩ := h
      have hi := strEnds_strict l r _ es' hes
      generalize hd : (Lib.uvarintDec (l.drop p)) = d at *
      intro i hlt
      cases i with
      | zero => simp; omega
      | succ i =>
        have := hi i (by omega)
        cases i with
        | zero => simpa using this
        | succ i => simpa using this

/-- One String read: m bytes for its length, v bytes. -/
theorem strEnds_step {l : List UInt8} {rows k p : Nat} {es : List Nat} (hk : k < rows) (h : strEnds l (rows - k) p = some (es.drop k)) :
    ∃ m v : Nat, 0 < m ∧ Lib.uvarintDec (l.drop p) = (v, (m : Int)) ∧ p + m + v ≤ l.length ∧ es.getD k 0 = p + (m + v) ∧ strEnds l (rows - (k + 1)) (p + (m + v)) = some (es.drop (k + 1)) := by
  obtain ⟨r, hr⟩ : ∃ r, rows - k = r + 1 := ⟨rows - k - 1, by omega⟩
  rw [hr] at h
  simp only [strEnds] at h
  split at h
  · simp at h
  · rename_i hno
    simp only [Option.map_eq_some_iff] at h
    obtain ⟨es', hes, hcons⟩ := h
    obtain ⟨⟨v, m⟩, hd⟩ : ∃ d, Lib.uvarintDec (l.drop p) = d := ⟨_, rfl⟩
    simp only [hd] at hno hes hcons
    refine ⟨m.toNat, v, by omega, by rw [Int.toNat_of_nonneg (by omega)]; exact hd, by omega, ?_, ?_⟩
    · have h0 : (es.drop k)[0]? = some (p + (m.toNat + v)) := by rw [← hcons]; rfl
      rw [List.getElem?_drop, Nat.add_zero] at h0
      rw [List.getD_eq_getElem?_getD, h0]; rfl
    · have h1 : es.drop (k + 1) = es' := by
        have := congrArg (List.drop 1) hcons
        simpa [List.drop_drop] using this.symm
      rw [show rows - (k + 1) = r by omega, h1]
      exact hes

theorem strEnds_last {l : List UInt8} {p : Nat} {es : List Nat} (h : strEnds l 0 p = some es) : p = l.length := by
  simp only [strEnds] at h
  split at h
  · assumption
  · simp at h
end Go.Proofs.Qxb6615609aFmt
