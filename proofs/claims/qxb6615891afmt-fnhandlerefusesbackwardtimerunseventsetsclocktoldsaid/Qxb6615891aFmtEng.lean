/-
  The engine in memory; Advance (28), setBusy (22), ZZnow (11), ZZbusy (12), ZZcwSubscribed (14).
-/
import Derived.Test.Qxb6615891aFmtMaps
import Derived.Test.Qxb6615891aFmtDur4
import Derived.BigQuiet
namespace Go.Proofs.Qxb6615891aFmt
open Go.RowKit Go.Extern.Stop Go.Stop Go.Extern

/-- The engine lies in block E, its queues, busy marks and call-waiting subscribers in Q, B, C; no timer runs. -/
structure Eng (n E Q B C : Nat) (now : Int) (bz cw : Obj) (w : World) : Prop where
  now : w.cell? ⟨E, 13, none⟩ = some (.int .i64 now)
  nowf : w.frozen? ⟨E, 13, none⟩ = false
  fq : w.cell? ⟨E, 15, none⟩ = some (.map (some Q))
  fb : w.cell? ⟨E, 16, none⟩ = some (.map (some B))
  fc : w.cell? ⟨E, 19, none⟩ = some (.map (some C))
  ft : w.cell? ⟨E, 22, none⟩ = some (.slice none 0 0)
  hq : w.heap[Q]? = some (.map #[] 0)
  hb : w.heap[B]? = some bz
  hc : w.heap[C]? = some cw
  nE : n ≤ E
  nB : n ≤ B
  nC : n ≤ C
  lE : E < w.heap.size
  lQ : Q < w.heap.size
  lB : B < w.heap.size
  lC : C < w.heap.size
  dist : E ≠ Q ∧ E ≠ B ∧ E ≠ C ∧ Q ≠ B ∧ Q ≠ C ∧ B ≠ C

variable {n E Q B C : Nat} {now : Int} {bz cw : Obj} {w w' : World}

theorem Eng.below (h : Eng n E Q B C now bz cw w) (hb : Below w.heap.size w w') : Eng n E Q B C now bz cw w' where
  now := (hb.cell (p := ⟨E, 13, none⟩) h.lE).trans h.now
  nowf := (hb.frozen (p := ⟨E, 13, none⟩) h.lE).trans h.nowf
  fq := (hb.cell (p := ⟨E, 15, none⟩) h.lE).trans h.fq
  fb := (hb.cell (p := ⟨E, 16, none⟩) h.lE).trans h.fb
  fc := (hb.cell (p := ⟨E, 19, none⟩) h.lE).trans h.fc
  ft := (hb.cell (p := ⟨E, 22, none⟩) h.lE).trans h.ft
  hq := (hb.block Q h.lQ).trans h.hq
  hb := (hb.block B h.lB).trans h.hb
  hc := (hb.block C h.lC).trans h.hc
  nE := h.nE
  nB := h.nB
  nC := h.nC
  lE := Nat.lt_of_lt_of_le h.lE hb.size
  lQ := Nat.lt_of_lt_of_le h.lQ hb.size
  lB := Nat.lt_of_lt_of_le h.lB hb.size
  lC := Nat.lt_of_lt_of_le h.lC hb.size
  dist := h.dist

theorem Eng.setNow (h : Eng n E Q B C now bz cw w) (t : Int) : Eng n E Q B C t bz cw (w.setCell ⟨E, 13, none⟩ (.int .i64 t)) where
  now := World.cell?_setCell_same _ _ _ h.now
  nowf := by rw [World.frozen?_setCell]; exact h.nowf
  fq := by rw [World.cell?_setCell_other _ _ _ _ (by intro c; injection c; omega)]; exact h.fq
  fb := by rw [World.cell?_setCell_other _ _ _ _ (by intro c; injection c; omega)]; exact h.fb
  fc := by rw [World.cell?_setCell_other _ _ _ _ (by intro c; injection c; omega)]; exact h.fc
  ft := by rw [World.cell?_setCell_other _ _ _ _ (by intro c; injection c; omega)]; exact h.ft
  hq := (Below.heap_setCell _ _ _ _ (fun e => h.dist.1 e.symm)).trans h.hq
  hb := (Below.heap_setCell _ _ _ _ (fun e => h.dist.2.1 e.symm)).trans h.hb
  hc := (Below.heap_setCell _ _ _ _ (fun e => h.dist.2.2.1 e.symm)).trans h.hc
  nE := h.nE
  nB := h.nB
  nC := h.nC
  lE := by rw [World.size_setCell]; exact h.lE
  lQ := by rw [World.size_setCell]; exact h.lQ
  lB := by rw [World.size_setCell]; exact h.lB
  lC := by rw [World.size_setCell]; exact h.lC
  dist := h.dist

/-- The world with one block exchanged. -/
def setBlk (w : World) (r : Nat) (o : Obj) : World := { w with heap := w.heap.setIfInBounds r o }

theorem setBlk_other (w : World) (r : Nat) (o : Obj) (k : Nat) (h : k ≠ r) : (setBlk w r o).heap[k]? = w.heap[k]? := by
  simp [setBlk, Ne.symm h]

theorem setBlk_same (w : World) (r : Nat) (o : Obj) (h : r < w.heap.size) : (setBlk w r o).heap[r]? = some o := by
  simp [setBlk, h]

theorem setBlk_size (w : World) (r : Nat) (o : Obj) : (setBlk w r o).heap.size = w.heap.size := by simp [setBlk]

theorem Eng.putB (h : Eng n E Q B C now bz cw w) (o : Obj) : Eng n E Q B C now o cw (setBlk w B o) where
  now := (World.cell?_of_block (a := ⟨E, 13, none⟩) (setBlk_other w B o E h.dist.2.1)).trans h.now
  nowf := (World.frozen?_of_block (a := ⟨E, 13, none⟩) (setBlk_other w B o E h.dist.2.1)).trans h.nowf
  fq := (World.cell?_of_block (a := ⟨E, 15, none⟩) (setBlk_other w B o E h.dist.2.1)).trans h.fq
  fb := (World.cell?_of_block (a := ⟨E, 16, none⟩) (setBlk_other w B o E h.dist.2.1)).trans h.fb
  fc := (World.cell?_of_block (a := ⟨E, 19, none⟩) (setBlk_other w B o E h.dist.2.1)).trans h.fc
  ft := (World.cell?_of_block (a := ⟨E, 22, none⟩) (setBlk_other w B o E h.dist.2.1)).trans h.ft
  hq := (setBlk_other w B o Q h.dist.2.2.2.1).trans h.hq
  hb := setBlk_same w B o h.lB
  hc := (setBlk_other w B o C (Ne.symm h.dist.2.2.2.2.2)).trans h.hc
  nE := h.nE
  nB := h.nB
  nC := h.nC
  lE := by rw [setBlk_size]; exact h.lE
  lQ := by rw [setBlk_size]; exact h.lQ
  lB := by rw [setBlk_size]; exact h.lB
  lC := by rw [setBlk_size]; exact h.lC
  dist := h.dist

theorem Eng.putC (h : Eng n E Q B C now bz cw w) (o : Obj) : Eng n E Q B C now bz o (setBlk w C o) where
  now := (World.cell?_of_block (a := ⟨E, 13, none⟩) (setBlk_other w C o E h.dist.2.2.1)).trans h.now
  nowf := (World.frozen?_of_block (a := ⟨E, 13, none⟩) (setBlk_other w C o E h.dist.2.2.1)).trans h.nowf
  fq := (World.cell?_of_block (a := ⟨E, 15, none⟩) (setBlk_other w C o E h.dist.2.2.1)).trans h.fq
  fb := (World.cell?_of_block (a := ⟨E, 16, none⟩) (setBlk_other w C o E h.dist.2.2.1)).trans h.fb
  fc := (World.cell?_of_block (a := ⟨E, 19, none⟩) (setBlk_other w C o E h.dist.2.2.1)).trans h.fc
  ft := (World.cell?_of_block (a := ⟨E, 22, none⟩) (setBlk_other w C o E h.dist.2.2.1)).trans h.ft
  hq := (setBlk_other w C o Q h.dist.2.2.2.2.1).trans h.hq
  hb := (setBlk_other w C o B h.dist.2.2.2.2.2).trans h.hb
  hc := setBlk_same w C o h.lC
  nE := h.nE
  nB := h.nB
  nC := h.nC
  lE := by rw [setBlk_size]; exact h.lE
  lQ := by rw [setBlk_size]; exact h.lQ
  lB := by rw [setBlk_size]; exact h.lB
  lC := by rw [setBlk_size]; exact h.lC
  dist := h.dist

/-- Of what was there, at most the blocks E, B, C have turned. -/
structure Fr (E B C : Nat) (w w' : World) : Prop where
  os : w'.os = w.os
  tape : w'.tape = w.tape
  output : w'.output = w.output
  size : w.heap.size ≤ w'.heap.size
  block : ∀ k, k < w.heap.size → k ≠ E → k ≠ B → k ≠ C → w'.heap[k]? = w.heap[k]?

theorem Fr.trans {w2 : World} (h : Fr E B C w w') (k : Fr E B C w' w2) : Fr E B C w w2 :=
  ⟨k.os.trans h.os, k.tape.trans h.tape, k.output.trans h.output, Nat.le_trans h.size k.size, fun i hi h1 h2 h3 => (k.block i (Nat.lt_of_lt_of_le hi h.size) h1 h2 h3).trans (h.block i hi h1 h2 h3)⟩

theorem Fr.of_below (h : Below w.heap.size w w') : Fr E B C w w' := ⟨h.os, h.tape, h.output, h.size, fun k hk _ _ _ => h.block k hk⟩

theorem Fr.below (h : Fr E B C w w') (hn : n ≤ w.heap.size) (hE : n ≤ E) (hB : n ≤ B) (hC : n ≤ C) : Below n w w' :=
  ⟨h.os, h.tape, h.output, h.size, fun k hk => h.block k (by omega) (by omega) (by omega) (by omega)⟩

theorem Fr.setE (w : World) (o : Nat) (v : Value) : Fr E B C w (w.setCell ⟨E, o, none⟩ v) :=
  ⟨rfl, rfl, rfl, by rw [World.size_setCell]; exact Nat.le_refl _, fun k _ h1 _ _ => Below.heap_setCell _ _ _ _ h1⟩

theorem Fr.setB (w : World) (o : Obj) : Fr E B C w (setBlk w B o) := ⟨rfl, rfl, rfl, by rw [setBlk_size]; exact Nat.le_refl _, fun k _ _ h2 _ => setBlk_other w B o k h2⟩
theorem Fr.setC (w : World) (o : Obj) : Fr E B C w (setBlk w C o) := ⟨rfl, rfl, rfl, by rw [setBlk_size]; exact Nat.le_refl _, fun k _ _ _ h3 => setBlk_other w C o k h3⟩

theorem Fr.cell (h : Fr E B C w w') {p : Addr} (hp : p.block < w.heap.size) (h1 : p.block ≠ E) (h2 : p.block ≠ B) (h3 : p.block ≠ C) : w'.cell? p = w.cell? p := World.cell?_of_block (h.block p.block hp h1 h2 h3)

/-- Advance, in time. -/
def Adv (E : Nat) (t : Int) (w : World) (e : Ending) (w' : World) : Prop := e = .returned .nilIface ∧ w' = w.setCell ⟨E, 13, none⟩ (.int .i64 t)

set_option maxRecDepth 100000 in
set_option maxHeartbeats 1000000 in
theorem adv_ok (h : Eng n E Q B C now bz cw w) (t : Int) (ht : now ≤ t) : Calls Tryf.prog 28 #[.pointer (some ⟨E, 0, none⟩), .int .i64 t] w (Adv E t w) := by
  have c1 := h.now
  have c2 := h.nowf
  have c3 := h.ft
  clear h
  go_enter Tryf.func28, Tryf.ntmps28
  go_wp2
  refine wp_loop_rounds 1 ?_
  rw [rounds_succ]
  go_wp2
  go_ret
  exact ⟨rfl, rfl⟩

set_option maxRecDepth 100000 in
set_option maxHeartbeats 1000000 in
theorem adv_late (F : Interp) (hF : F.answers w.tape) (h : Eng n E Q B C now bz cw w) (t : Int) (ht : t < now) (h1 : -9223372036854775808 ≤ t) (h2 : t ≤ 9223372036854775807) (h3 : -9223372036854775808 ≤ now) (h4 : now ≤ 9223372036854775807) :
    Calls Tryf.prog 28 #[.pointer (some ⟨E, 0, none⟩), .int .i64 t] w (Erred w) := by
  have c1 := h.now
  clear h
  go_enter Tryf.func28, Tryf.ntmps28
  go_wp2_with (go_at_call 17; refine (errTime F t now _ _ (by exact hF) h1 h2 h3 h4 ?hb ?hc ?hd).mono ?_)
  case hb => simp
  case hc => go_simp
  case hd => go_simp
  rintro e w1 ⟨ty, a, rfl, hx⟩
  simp only [World.size_alloc] at hx
  have Hx := hide hx
  clear hx
  go_wp2
  go_ret
  exact ⟨ty, a, rfl, ((Below.refl _ _).alloc (Nat.le_refl _) _).trans (Hx.out.mono (by omega))⟩

/-- The engine's clock. -/
theorem now11 (h : Eng n E Q B C now bz cw w) : Calls Tryf.prog 11 #[.pointer (some ⟨E, 0, none⟩)] w (fun e w' => e = .returned (.int .i64 now) ∧ w' = w) := by
  have c1 := h.now
  clear h
  go_enter Tryf.func11, Tryf.ntmps11
  go_wp2
  go_ret
  exact ⟨rfl, rfl⟩

end Go.Proofs.Qxb6615891aFmt
