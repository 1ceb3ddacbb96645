/-
  The law on the clock (function 5).
-/
import Derived.Test.Qxb6615891aFmtEng5
import Derived.Test.Qxb6615891aFmtNew2
namespace Go.Proofs.Qxb6615891aFmt
open Go.RowKit Go.Extern.Stop Go.Stop Go.Extern

/-- The law says true; nothing that was there has turned. -/
def Yes5 (w : World) (e : Ending) (w' : World) : Prop := e = .returned (.bool true) ∧ Below w.heap.size w w'

theorem newW_below' (m : Int) (w : World) : Below w.heap.size w (newW m w) := by
  unfold newW
  exact (((((((((((Below.refl _ _).alloc (Nat.le_refl _) _).alloc (by simp) _).alloc (by simp; omega) _).alloc (by simp; omega) _).alloc (by simp; omega) _).alloc (by simp; omega) _).alloc (by simp; omega) _).alloc (by simp; omega) _).alloc (by simp; omega) _).alloc (by simp; omega) _)

theorem newW_size (m : Int) (w : World) : (newW m w).heap.size = w.heap.size + 10 := by
  unfold newW
  simp

theorem alloc_heap (w : World) (o : Obj) (k : Nat) : (w.alloc o).heap[k]? = if k = w.heap.size then some o else w.heap[k]? := by
  show (w.heap.push o)[k]? = _
  rw [Array.getElem?_push]

theorem eng_new (m : Int) (w : World) : Eng w.heap.size (w.heap.size + 1 + 1 + 1 + 1 + 1 + 1 + 1 + 1 + 1) (w.heap.size + 2) (w.heap.size + 3) (w.heap.size + 6) 0 (.map #[] 0) (.map #[] 0) (newW m w) where
  now := by unfold newW engCells; go_simp
  nowf := by unfold newW engCells; go_simp
  fq := by unfold newW engCells; go_simp
  fb := by unfold newW engCells; go_simp
  fc := by unfold newW engCells; go_simp
  ft := by unfold newW engCells; go_simp
  hq := by unfold newW; simp only [alloc_heap, World.size_alloc]; simp
  hb := by unfold newW; simp only [alloc_heap, World.size_alloc]; simp
  hc := by unfold newW; simp only [alloc_heap, World.size_alloc]; simp
  nE := by omega
  nB := by omega
  nC := by omega
  lE := by rw [newW_size]; omega
  lQ := by rw [newW_size]; omega
  lB := by rw [newW_size]; omega
  lC := by rw [newW_size]; omega
  dist := by omega

/-- What the law knows between two calls: the engine, and the party p in block P. -/
structure Inv (w : World) (n E Q B C P : Nat) (a b : ByteArray) (clock : Int) (c : Bool) (wr : World) : Prop where
  below : Below w.heap.size w wr
  wn : w.heap.size ≤ n
  eng : Eng n E Q B C clock (mo a b c) (.map #[] 0) wr
  p0 : wr.cell? ⟨P, 0, none⟩ = some (.string a)
  p1 : wr.cell? ⟨P, 1, none⟩ = some (.string b)
  lP : P < wr.heap.size
  dP : P ≠ E ∧ P ≠ B ∧ P ≠ C
  r1 : -9223372036854775808 ≤ clock
  r2 : clock ≤ 9223372036854775807

variable {w wr w' : World} {n E Q B C P : Nat} {a b : ByteArray} {clock : Int} {c : Bool}

theorem Inv.fr (h : Inv w n E Q B C P a b clock c wr) (f : Fr E B C wr w') {clock' : Int} {c' : Bool} (he : Eng n E Q B C clock' (mo a b c') (.map #[] 0) w') (h1 : -9223372036854775808 ≤ clock') (h2 : clock' ≤ 9223372036854775807) : Inv w n E Q B C P a b clock' c' w' where
  below := h.below.trans (f.below h.below.size (Nat.le_trans h.wn h.eng.nE) (Nat.le_trans h.wn h.eng.nB) (Nat.le_trans h.wn h.eng.nC))
  wn := h.wn
  eng := he
  p0 := (f.cell (p := ⟨P, 0, none⟩) h.lP h.dP.1 h.dP.2.1 h.dP.2.2).trans h.p0
  p1 := (f.cell (p := ⟨P, 1, none⟩) h.lP h.dP.1 h.dP.2.1 h.dP.2.2).trans h.p1
  lP := Nat.lt_of_lt_of_le h.lP f.size
  dP := h.dP
  r1 := h1
  r2 := h2

theorem Inv.bel (h : Inv w n E Q B C P a b clock c wr) (f : Below wr.heap.size wr w') : Inv w n E Q B C P a b clock c w' := h.fr (Fr.of_below f) (h.eng.below f) h.r1 h.r2

/-- A guard's answer; nothing turns. -/
def Asked (w : World) (e : Ending) (w' : World) : Prop := ∃ g : Bool, e = .returned (.bool g) ∧ w' = w

set_option maxHeartbeats 1000000 in
theorem guard15 (x : Option Addr) (len cap : Nat) (num acc : ByteArray) (w : World) (h1 : len ≤ 9223372036854775807) (h2 : num.size ≤ 9223372036854775807) (h3 : acc.size ≤ 9223372036854775807) :
    Calls Tryf.prog 15 #[.slice x len cap, .string num, .string acc] w (Asked w) := by
  go_enter Tryf.func15, Tryf.ntmps15
  go_wp2
  all_goals (go_ret; exact ⟨_, rfl, rfl⟩)

end Go.Proofs.Qxb6615891aFmt
