/-
  Maps with the key Party (type 37: two strings): map[Party]bool (48), and map[Party][]*request (47) while it is empty.
-/
import Derived.Test.Qxb6615891aFmtErr
import Derived.DeepKeys5
import Derived.WideMake
namespace Go.Proofs.Qxb6615891aFmt
open Go.RowKit Go.Extern.Stop Go.Stop Go.Extern

theorem laidOutM : laidOutB Tryf.prog = true := by kernel_rfl
theorem law37 : WideMaps.KeyLaw Tryf.prog 37 := deep_law_gate laidOutM (of_decide_eq_true (by kernel_rfl)) (of_decide_eq_true (by kernel_rfl)) (by kernel_rfl) (by kernel_rfl)

/-- A party. -/
def pk (a b : ByteArray) : Value := .agg #[.string a, .string b]

theorem cells37 : Tryf.prog.cellsOf 37 = 2 := by kernel_rfl
theorem cells9 : Tryf.prog.cellsOf 9 = 1 := by kernel_rfl
theorem key37 : Tryf.prog.keyType 37 = true := by kernel_rfl

theorem keyP (a b : ByteArray) (ha : a.size ≤ maxLen) (hb : b.size ≤ maxLen) : ∃ l, keyOf Tryf.prog 37 (pk a b) = some l := by
  obtain ⟨k, hk⟩ : ∃ k, Tryf.prog.types.size = k + 1 := ⟨Tryf.prog.types.size - 1, by have : 0 < Tryf.prog.types.size := of_decide_eq_true (by kernel_rfl); omega⟩
  have hf : Value.formed Tryf.prog 37 (pk a b) = true := by simp [Value.formed, pk, Tryf.underlying37, cells37]
  have h9 : ∀ s : ByteArray, s.size ≤ maxLen → Tryf.prog.keyLits (k + 1) 9 [.string s] = some [.string s.data.toList] := by
    intro s hs
    simp [Program.keyLits, Tryf.underlying9, hs]
  have hl : Tryf.prog.keyLits (k + 1 + 1) 37 [.string a, .string b] = some [.string a.data.toList, .string b.data.toList] := by
    unfold Program.keyLits
    simp [Tryf.underlying37, cells37, cells9, h9 a ha, h9 b hb]
  unfold keyOf
  rw [Tryf.underlying37]
  simp only [key37, hf, hk]
  exact ⟨_, by simp only [pk, Value.cells, hl]; rfl⟩

theorem und48 : Tryf.prog.underlying 48 = some (.map 37 4) := by kernel_rfl
theorem und47 : Tryf.prog.underlying 47 = some (.map 37 69) := by kernel_rfl
/-- The map's block: the party is in it, or nothing is. -/
def mo (a b : ByteArray) (c : Bool) : Obj := if c then .map #[{ key := pk a b, val := .bool true, born := 0 }] 1 else .map #[] 0

theorem find_none (a b : ByteArray) (w : World) : (Instr.findKey 37 (pk a b) []).run Tryf.prog w = .ok none w := by
  rw [run_findKey_eq w (by rw [Tryf.underlying37])]
  simp [Instr.findAsking]

theorem find_one (a b : ByteArray) (ha : a.size ≤ maxLen) (hb : b.size ≤ maxLen) (w : World) : (Instr.findKey 37 (pk a b) [{ key := pk a b, val := .bool true, born := 0 }]).run Tryf.prog w = .ok (some (0, .bool true)) w := by
  obtain ⟨l, hl⟩ := keyP a b ha hb
  rcases law37.find w hl [{ key := pk a b, val := .bool true, born := 0 }] (by simp [hl]) with ⟨_, h⟩ | ⟨j, e, h, hj, _⟩
  · exact absurd rfl (h _ (List.mem_singleton.2 rfl))
  · have hj0 : j = 0 := by
      have := List.getElem?_eq_some_iff.1 hj
      obtain ⟨h1, _⟩ := this
      simpa using h1
    subst hj0
    simp at hj
    rw [h, ← hj]

theorem look48 (a b : ByteArray) (ha : a.size ≤ maxLen) (hb : b.size ≤ maxLen) (c : Bool) (r : Nat) (w : World) (hr : w.heap[r]? = some (mo a b c)) :
    Sem.run Tryf.prog (Instr.lookup 48 (.map (some r)) (pk a b) false) w = .ok (.bool c) w := by
  obtain ⟨l, hl⟩ := keyP a b ha hb
  have hc := fun em => law37.check w em hl
  cases c
  · have hr' : w.heap[r]? = some (.map #[] 0) := hr
    simp [Instr.lookup, run_underlying und48, MapKept.run_getObj_map hr', hc, find_none, Result.andThen]
  · have hr' : w.heap[r]? = some (.map #[{ key := pk a b, val := .bool true, born := 0 }] 1) := hr
    simp [Instr.lookup, run_underlying und48, MapKept.run_getObj_map hr', hc, find_one a b ha hb, Result.andThen]

theorem look47 (a b : ByteArray) (ha : a.size ≤ maxLen) (hb : b.size ≤ maxLen) (r : Nat) (w : World) (hr : w.heap[r]? = some (.map #[] 0)) :
    Sem.run Tryf.prog (Instr.lookup 47 (.map (some r)) (pk a b) false) w = .ok (.slice none 0 0) w := by
  obtain ⟨l, hl⟩ := keyP a b ha hb
  have hc := fun em => law37.check w em hl
  simp [Instr.lookup, run_underlying und47, MapKept.run_getObj_map hr, hc, find_none, Result.andThen]

theorem put48 (a b : ByteArray) (ha : a.size ≤ maxLen) (hb : b.size ≤ maxLen) (c : Bool) (r : Nat) (w : World) (hr : w.heap[r]? = some (mo a b c)) :
    Sem.run Tryf.prog (Instr.mapUpdate 48 (.map (some r)) (pk a b) (.bool true)) w = .ok () { w with heap := w.heap.setIfInBounds r (mo a b true) } := by
  obtain ⟨l, hl⟩ := keyP a b ha hb
  have hc := fun em => law37.check w em hl
  have hs := law37.stays w hl
  cases c
  · have hr' : w.heap[r]? = some (.map #[] 0) := hr
    simp [Instr.mapUpdate, run_underlying und48, MapKept.run_getObj_map hr', hc, find_none, MapKept.run_setObj_map _ hr', Result.andThen, mo]
  · have hr' : w.heap[r]? = some (.map #[{ key := pk a b, val := .bool true, born := 0 }] 1) := hr
    simp [Instr.mapUpdate, run_underlying und48, MapKept.run_getObj_map hr', hc, find_one a b ha hb, hs, MapKept.run_setObj_map _ hr', Result.andThen, mo]
end Go.Proofs.Qxb6615891aFmt
