/-
  appendText (functions 20, 13), ZZnewTableWidths (9), zzReadText (14).
-/
import Derived.Test.Qxb6615609aFmtSplitB
import Derived.Lib.AppendStr
import Derived.Deep.QuietTactic
import Derived.BigQuiet
namespace Go.Proofs.Qxb6615609aFmt
open Go.RowKit

/-- A text as a String is written. -/
def enc (s : ByteArray) : List UInt8 := Lib.uvarint s.size ++ s.data.toList

theorem strCells_eq (s : ByteArray) : Lib.strCells s = Lib.byteCells s.data.toList := by
  simp [Lib.strCells, Lib.byteCells]

/-- What appendText comes to: the row owned, the text behind it. -/
def Texted (B : Nat) (l : List UInt8) (w : World) (e : Ending) (w' : World) : Prop := ∃ v', e = .returned v' ∧ w'.ownsRow B 5 1 v' l.length (Lib.byteCells l) ∧ Below B w w'

set_option maxHeartbeats 1000000 in
theorem text20 (B : Nat) (v : Value) (l : List UInt8) (s : ByteArray) (w : World) (hs : s.size ≤ 1048576) (hl : l.length ≤ 137438953472) (hB : B ≤ w.heap.size) (hown : w.ownsRow B 5 1 v l.length (Lib.byteCells l)) :
    Calls Tryf.prog 20 #[v, .string s] w (Texted B (l ++ enc s) w) := by
  obtain ⟨i0, hi0, hz0, hz1, hz2⟩ := info_parts info5
  have hul := Lib.uvarint_length64 (x := s.size) (by omega)
  have Hc := hide (Tryf.binary_AppendUvarint B l.length s.size (by omega) v (Lib.byteCells l) w hown hB (by omega))
  have hle : (s.size : Int) ≤ 1048576 := by omega
  clear hown
  go_enter Tryf.func20, Tryf.ntmps20
  go_wp2_with fail
  refine Hc.out.mono ?_
  rintro e w1 ⟨v1, rfl, hown1, hb1⟩
  have Hown1 := hide hown1
  have Hb1 := hide hb1
  have hsz := hb1.size
  clear hown1 hb1 Hc
  go_wp2_with (at_builtin; refine Lib.wpList_append_own_string _ rfl _ _ 26 9 rfl B 5 i0 Tryf.underlying26 Tryf.underlying9 hi0 hz0 hz1 hz2 v1 _ _ rfl Hown1.out s rfl ?c1 ?c2 ?c3 ?_)
  case c1 => unfold maxLen; omega
  case c2 => omega
  case c3 => omega
  intro v2 w2 hown2 hgrow _
  have Hown2 := hide hown2
  have Hb2 := hide (below_grown Hown1.out hgrow (Nat.le_trans hB hsz))
  clear hown2 hgrow
  go_wp2
  go_ret
  refine ⟨_, rfl, ?_, Hb1.out.trans Hb2.out⟩
  have := Hown2.out
  rw [strCells_eq] at this
  simpa [enc, Lib.byteCells_append, Nat.add_assoc] using this

theorem text13 (B : Nat) (v : Value) (l : List UInt8) (s : ByteArray) (w : World) (hs : s.size ≤ 1048576) (hl : l.length ≤ 137438953472) (hB : B ≤ w.heap.size) (hown : w.ownsRow B 5 1 v l.length (Lib.byteCells l)) :
    Calls Tryf.prog 13 #[v, .string s] w (Texted B (l ++ enc s) w) := by
  have Hc := hide (text20 B v l s w hs hl hB hown)
  clear hown
  go_enter Tryf.func13, Tryf.ntmps13
  go_wp2_with fail
  refine Hc.out.mono ?_
  rintro e w1 ⟨v1, rfl, hown1, hb1⟩
  have Hown1 := hide hown1
  have Hb1 := hide hb1
  clear hown1 hb1 Hc
  go_wp2
  go_ret
  exact ⟨_, rfl, Hown1.out, Hb1.out⟩

/-- ZZnewTableWidths: a new block; field 4 holds the widths. -/
def TabW (v : Value) (w : World) (e : Ending) (w' : World) : Prop := e = .returned (.pointer (some ⟨w.heap.size, 0, none⟩)) ∧ Below w.heap.size w w' ∧ w'.heap.size = w.heap.size + 1 ∧ w'.cell? ⟨w.heap.size, 4, none⟩ = some v

theorem table9 (db nm : ByteArray) (a : Option Addr) (n c : Nat) (w : World) : Calls Tryf.prog 9 #[.string db, .string nm, .slice a n c] w (TabW (.slice a n c) w) := by
  go_enter Tryf.func9, Tryf.ntmps9
  go_wp2
  go_ret
  refine ⟨rfl, (Below.refl _ _).alloc (Nat.le_refl _) _, by simp, ?_⟩
  rw [World.cell?_alloc_new]
  rfl
end Go.Proofs.Qxb6615609aFmt
