/-
  PLAIN LAWS: texts written one behind the other, cut again.
-/
import Derived.Test.Qxb6615609aFmtApp
namespace Go.Proofs.Qxb6615609aFmt

/-- The first k texts, each written as a String. -/
def stream (T : Nat → ByteArray) (k : Nat) : List UInt8 := (List.range k).flatMap fun i => enc (T i)

theorem stream_succ (T : Nat → ByteArray) (k : Nat) : stream T (k + 1) = stream T k ++ enc (T k) := by simp [stream, List.range_succ]

theorem enc_pos (s : ByteArray) : 1 ≤ (enc s).length := by
  have := Lib.uvarint_pos s.size
  simp [enc]
  omega

theorem enc_le (s : ByteArray) (h : s.size ≤ 1048576) : (enc s).length ≤ 1048586 := by
  have := Lib.uvarint_length64 (x := s.size) (by omega)
  have hs : s.data.size = s.size := rfl
  simp [enc]
  omega

theorem enc_length (s : ByteArray) : (enc s).length = (Lib.uvarint s.size).length + s.size := by
  have hs : s.data.size = s.size := rfl
  simp [enc]

theorem stream_add (T : Nat → ByteArray) (k : Nat) : ∀ r, ∃ rest, stream T (k + r) = stream T k ++ rest
  | 0 => ⟨[], by simp⟩
  | r + 1 => by
    obtain ⟨rest, h⟩ := stream_add T k r
    exact ⟨rest ++ enc (T (k + r)), by rw [← Nat.add_assoc, stream_succ, h, List.append_assoc]⟩

theorem stream_cut (T : Nat → ByteArray) {k n : Nat} (h : k < n) : ∃ rest, stream T n = stream T k ++ (enc (T k) ++ rest) := by
  obtain ⟨rest, hr⟩ := stream_add T (k + 1) (n - (k + 1))
  exact ⟨rest, by rw [← List.append_assoc, ← stream_succ, ← hr]; congr 1; omega⟩

theorem stream_le (T : Nat → ByteArray) : ∀ k, (∀ i, i < k → (T i).size ≤ 1048576) → (stream T k).length ≤ k * 1048586
  | 0, _ => by simp [stream]
  | k + 1, h => by
    have ih := stream_le T k (fun i hi => h i (by omega))
    have he := enc_le (T k) (h k (by omega))
    rw [stream_succ, List.length_append, Nat.add_mul]
    omega

/-- Where the texts end. -/
theorem stream_ends (T : Nat → ByteArray) (n : Nat) (hT : ∀ i, i < n → (T i).size ≤ 1048576) : ∀ r k, k + r = n → strEnds (stream T n) r (stream T k).length = some ((List.range r).map fun i => (stream T (k + i + 1)).length)
  | 0, k, h => by
    obtain rfl : k = n := by omega
    simp [strEnds]
  | r + 1, k, h => by
    have hk : k < n := by omega
    obtain ⟨rest, hr⟩ := stream_cut T hk
    have hd : (stream T n).drop (stream T k).length = enc (T k) ++ rest := by rw [hr, List.drop_left]
    have hdec : Lib.uvarintDec ((stream T n).drop (stream T k).length) = ((T k).size, ((Lib.uvarint (T k).size).length : Int)) := by
      rw [hd, enc, List.append_assoc]
      exact dec_uvarint (by have := hT k hk; omega) _
    have hl : (stream T n).length = (stream T k).length + ((enc (T k)).length + rest.length) := by rw [hr]; simp
    have hel := enc_length (T k)
    have hup := Lib.uvarint_pos (T k).size
    have hnext : (stream T k).length + ((Lib.uvarint (T k).size).length + (T k).size) = (stream T (k + 1)).length := by rw [stream_succ, List.length_append]; omega
    have ih := stream_ends T n hT r (k + 1) (by omega)
    simp only [strEnds, hdec]
    rw [if_neg (by simp only [Int.toNat_natCast]; omega)]
    simp only [Int.toNat_natCast]
    rw [hnext, ih]
    simp only [Option.map_some, List.range_succ_eq_map, List.map_cons, List.map_map, Nat.add_zero, Option.some.injEq, List.cons.injEq, true_and]
    apply List.map_congr_left
    intro i _
    simp only [Function.comp]
    congr 2
    omega

/-- The ends of all texts. -/
def textEnds (T : Nat → ByteArray) (n : Nat) : List Nat := (List.range n).map fun i => (stream T (i + 1)).length

theorem text_ends (T : Nat → ByteArray) (n : Nat) (hT : ∀ i, i < n → (T i).size ≤ 1048576) : valEnds (stream T n) n 0 = some (textEnds T n) := by
  have := stream_ends T n hT n 0 (by omega)
  simpa [valEnds, textEnds, stream] using this

theorem endAt_text (T : Nat → ByteArray) (n : Nat) (z : Int) (h0 : 0 ≤ z) (h1 : z < n) : endAt (textEnds T n) z = (stream T (z.toNat + 1)).length ∧ endAt (textEnds T n) (z - 1) = (stream T z.toNat).length := by
  obtain ⟨j, rfl⟩ := Int.eq_ofNat_of_zero_le h0
  have hj : j < n := by omega
  have g : ∀ q, q < n → (textEnds T n).getD q 0 = (stream T (q + 1)).length := by
    intro q hq
    simp [textEnds, List.getD_eq_getElem?_getD, List.getElem?_range hq]
  refine ⟨?_, ?_⟩
  · unfold endAt
    rw [if_neg (by omega), Int.toNat_natCast, g j hj]
  · unfold endAt
    split
    · have : j = 0 := by omega
      subst this
      simp [stream]
    · rw [show ((j : Int) - 1).toNat = j - 1 by omega, g (j - 1) (by omega), Int.toNat_natCast]
      congr 2
      omega

/-- A group's byte string is its texts, written one behind the other. -/
theorem piece_text (T : Nat → ByteArray) (n : Nat) (z : Nat → Int) : ∀ k, (∀ i, i < k → 0 ≤ z i ∧ z i < n) → pieceTo (stream T n) (textEnds T n) z k = stream (fun i => T (z i).toNat) k
  | 0, _ => by simp [pieceTo, stream]
  | k + 1, h => by
    have ih := piece_text T n z k (fun i hi => h i (by omega))
    obtain ⟨h0, h1⟩ := h k (by omega)
    obtain ⟨e1, e2⟩ := endAt_text T n (z k) h0 h1
    rw [pieceTo_succ, stream_succ, ih, e1, e2]
    congr 1
    obtain ⟨rest, hr⟩ := stream_cut T (k := (z k).toNat) (n := n) (by omega)
    rw [hr, stream_succ, ← List.append_assoc, List.take_left, List.drop_left]
end Go.Proofs.Qxb6615609aFmt
