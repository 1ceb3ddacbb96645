/-
  ZZbusy (12), ZZcwSubscribed (14), setBusy (22).
-/
import Derived.Test.Qxb6615891aFmtEng
namespace Go.Proofs.Qxb6615891aFmt
open Go.RowKit Go.Extern.Stop Go.Stop Go.Extern
variable {n E Q B C : Nat} {now : Int} {bz cw : Obj} {w w' : World}

/-- A bool comes back; nothing that was there has turned. -/
def Said (c : Bool) (w : World) (e : Ending) (w' : World) : Prop := e = .returned (.bool c) ∧ Below w.heap.size w w'

theorem alloc_old (w : World) (o : Obj) (r : Nat) (h : r < w.heap.size) : (w.alloc o).heap[r]? = w.heap[r]? := Below.heap_alloc w o r h

theorem said_of (c : Bool) (w : World) (o : Obj) (m : Nat) : Said c w (.returned (.bool c)) ((w.alloc o).drewN m) := ⟨rfl, ((Below.refl _ _).alloc (Nat.le_refl _) _).trans ⟨rfl, rfl, rfl, Nat.le_refl _, fun _ _ => rfl⟩⟩

set_option maxRecDepth 100000 in
set_option maxHeartbeats 1000000 in
theorem busy12 (a b : ByteArray) (ha : a.size ≤ maxLen) (hb : b.size ≤ maxLen) (c : Bool) (h : Eng n E Q B C now (mo a b c) cw w) :
    Calls Tryf.prog 12 #[.pointer (some ⟨E, 0, none⟩), .agg #[.string a, .string b]] w (Said c w) := by
  have lE := h.lE
  have c1 : (w.alloc (.cells #[.string a, .string b] 37)).cell? ⟨E, 16, none⟩ = some (.map (some B)) := (World.cell?_of_block (a := ⟨E, 16, none⟩) (alloc_old w _ E h.lE)).trans h.fb
  have hl : ∀ m, _ := fun m => look48 a b ha hb c B ((w.alloc (.cells #[.string a, .string b] 37)).drewN m) ((alloc_old w _ B h.lB).trans h.hb)
  unfold pk at hl
  clear h
  go_enter Tryf.func12, Tryf.ntmps12
  go_wp2
  go_quiet (fail)
  go_wp2
  go_ret
  exact said_of _ _ _ _

set_option maxRecDepth 100000 in
set_option maxHeartbeats 1000000 in
theorem cw14 (a b : ByteArray) (ha : a.size ≤ maxLen) (hb : b.size ≤ maxLen) (c : Bool) (h : Eng n E Q B C now bz (mo a b c) w) :
    Calls Tryf.prog 14 #[.pointer (some ⟨E, 0, none⟩), .agg #[.string a, .string b]] w (Said c w) := by
  have lE := h.lE
  have c1 : (w.alloc (.cells #[.string a, .string b] 37)).cell? ⟨E, 19, none⟩ = some (.map (some C)) := (World.cell?_of_block (a := ⟨E, 19, none⟩) (alloc_old w _ E h.lE)).trans h.fc
  have hl : ∀ m, _ := fun m => look48 a b ha hb c C ((w.alloc (.cells #[.string a, .string b] 37)).drewN m) ((alloc_old w _ C h.lC).trans h.hc)
  unfold pk at hl
  clear h
  go_enter Tryf.func14, Tryf.ntmps14
  go_wp2
  go_quiet (fail)
  go_wp2
  go_ret
  exact said_of _ _ _ _
end Go.Proofs.Qxb6615891aFmt
