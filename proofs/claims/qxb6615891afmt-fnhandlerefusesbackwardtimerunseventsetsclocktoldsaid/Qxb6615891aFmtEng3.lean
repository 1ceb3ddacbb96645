/-
  setBusy (22) and the closures of Busy (21) and SubscribeCallWaiting (23).
-/
import Derived.Test.Qxb6615891aFmtEng2
import Derived.Deep.RegionHeld3
namespace Go.Proofs.Qxb6615891aFmt
open Go.RowKit Go.Extern.Stop Go.Stop Go.Extern
variable {n E Q B C : Nat} {now : Int} {bz cw : Obj} {w w' : World}

theorem drewN_below (k : Nat) (w : World) (m : Nat) : Below k w (w.drewN m) := ⟨rfl, rfl, rfl, Nat.le_refl _, fun _ _ => rfl⟩

/-- It comes back; the engine's busy marks are o. -/
def Marked (n E Q B C : Nat) (now : Int) (o cw : Obj) (w : World) (e : Ending) (w' : World) : Prop := e = .returned (.tuple #[]) ∧ Fr E B C w w' ∧ Eng n E Q B C now o cw w'

set_option maxRecDepth 100000 in
set_option maxHeartbeats 1000000 in
theorem setBusy22 (a b : ByteArray) (ha : a.size ≤ maxLen) (hb : b.size ≤ maxLen) (c : Bool) (h : Eng n E Q B C now (mo a b c) cw w) :
    Calls Tryf.prog 22 #[.pointer (some ⟨E, 0, none⟩), .agg #[.string a, .string b]] w (Marked n E Q B C now (mo a b true) cw w) := by
  have lE := h.lE
  have c1 : (w.alloc (.cells #[.string a, .string b] 37)).cell? ⟨E, 16, none⟩ = some (.map (some B)) := (World.cell?_of_block (a := ⟨E, 16, none⟩) (alloc_old w _ E h.lE)).trans h.fb
  have e1 : Eng n E Q B C now (mo a b c) cw (w.alloc (.cells #[.string a, .string b] 37)).drew := h.below (((Below.refl _ _).alloc (Nat.le_refl _) _).drew)
  obtain ⟨w2, hw2⟩ : ∃ w2, w2 = setBlk (w.alloc (.cells #[.string a, .string b] 37)).drew B (mo a b true) := ⟨_, rfl⟩
  have hp := put48 a b ha hb c B (w.alloc (.cells #[.string a, .string b] 37)).drew e1.hb
  have e2 := e1.putB (mo a b true)
  rw [← hw2] at e2
  change _ = Result.ok () (setBlk _ _ _) at hp
  rw [← hw2] at hp
  have hne : w.heap.size ≠ B := Nat.ne_of_gt h.lB
  have k0 : w2.cell? ⟨w.heap.size, 0, none⟩ = some (.string a) := by
    rw [hw2]
    refine (World.cell?_of_block (a := ⟨w.heap.size, 0, none⟩) (setBlk_other _ B _ w.heap.size hne)).trans ?_
    show (w.alloc _).cell? _ = _
    rw [World.cell?_alloc_new]; rfl
  have k1 : w2.cell? ⟨w.heap.size, 1, none⟩ = some (.string b) := by
    rw [hw2]
    refine (World.cell?_of_block (a := ⟨w.heap.size, 1, none⟩) (setBlk_other _ B _ w.heap.size hne)).trans ?_
    show (w.alloc _).cell? _ = _
    rw [World.cell?_alloc_new]; rfl
  have hbel : Fr E B C w w2 := by
    rw [hw2]
    exact (Fr.of_below (((Below.refl _ _).alloc (Nat.le_refl _) _).drew)).trans (Fr.setB _ _)
  have c2 := e2.fq
  have hl : ∀ m, _ := fun m => look47 a b ha hb Q (w2.drewN m) e2.hq
  unfold pk at hp hl
  have H2 := hide e2
  have Hb := hide hbel
  clear h hw2 e1 e2 hbel
  go_enter Tryf.func22, Tryf.ntmps22
  go_wp2
  go_region
  go_wp2
  go_quiet (fail)
  go_wp2
  refine wp_loop_rounds 1 ?_
  rw [rounds_succ]
  go_wp2
  go_end0
  exact ⟨rfl, Hb.out.trans (Fr.of_below (drewN_below _ _ _)), H2.out.below (drewN_below _ _ _)⟩

set_option maxRecDepth 100000 in
set_option maxHeartbeats 1000000 in
/-- Busy's closure. -/
theorem closure21 (a b : ByteArray) (ha : a.size ≤ maxLen) (hb : b.size ≤ maxLen) (c : Bool) (h : Eng n E Q B C now (mo a b c) cw w) (p q : Nat)
    (h0 : w.cell? ⟨p, 0, none⟩ = some (.pointer (some ⟨E, 0, none⟩))) (h1 : w.cell? ⟨q, 0, none⟩ = some (.string a)) (h2 : w.cell? ⟨q, 1, none⟩ = some (.string b)) :
    Calls Tryf.prog 21 #[.pointer (some ⟨p, 0, none⟩), .pointer (some ⟨q, 0, none⟩)] w (Marked n E Q B C now (mo a b true) cw w) := by
  have Hs := hide (setBusy22 a b ha hb c h)
  clear h
  go_enter Tryf.func21, Tryf.ntmps21
  go_wp2_with (go_at_call 22; refine Hs.out.mono ?_; rintro e w' ⟨rfl, hbl, he⟩; have Hbl := hide hbl; have He := hide he; clear hbl he)
  go_end0
  exact ⟨rfl, Hbl.out, He.out⟩

set_option maxRecDepth 100000 in
set_option maxHeartbeats 1000000 in
/-- SubscribeCallWaiting's closure. -/
theorem closure23 (a b : ByteArray) (ha : a.size ≤ maxLen) (hb : b.size ≤ maxLen) (c : Bool) (h : Eng n E Q B C now bz (mo a b c) w) (p q : Nat)
    (h0 : w.cell? ⟨p, 0, none⟩ = some (.pointer (some ⟨E, 0, none⟩))) (h1 : w.cell? ⟨q, 0, none⟩ = some (.string a)) (h2 : w.cell? ⟨q, 1, none⟩ = some (.string b)) :
    Calls Tryf.prog 23 #[.pointer (some ⟨p, 0, none⟩), .pointer (some ⟨q, 0, none⟩)] w (Marked n E Q B C now bz (mo a b true) w) := by
  have c1 := h.fc
  have e1 : Eng n E Q B C now bz (mo a b c) w.drew := h.below (Below.refl _ _).drew
  obtain ⟨w2, hw2⟩ : ∃ w2, w2 = setBlk w.drew C (mo a b true) := ⟨_, rfl⟩
  have hp := put48 a b ha hb c C w.drew e1.hc
  have e2 := e1.putC (mo a b true)
  rw [← hw2] at e2
  change _ = Result.ok () (setBlk _ _ _) at hp
  rw [← hw2] at hp
  have hbel : Fr E B C w w2 := by
    rw [hw2]
    exact (Fr.of_below ((Below.refl _ _).drew)).trans (Fr.setC _ _)
  unfold pk at hp
  have H2 := hide e2
  have Hb := hide hbel
  clear h hw2 e1 e2 hbel
  go_enter Tryf.func23, Tryf.ntmps23
  go_wp2
  go_region
  go_wp2
  go_end0
  exact ⟨rfl, Hb.out, H2.out⟩
end Go.Proofs.Qxb6615891aFmt
