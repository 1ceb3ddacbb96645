/-
  handle (20), Busy (10), SubscribeCallWaiting (13).
-/
import Derived.Test.Qxb6615891aFmtEng3
namespace Go.Proofs.Qxb6615891aFmt
open Go.RowKit Go.Extern.Stop Go.Stop Go.Extern
variable {n E Q B C : Nat} {now : Int} {bz cw : Obj} {w w' : World}

/-- nil comes back; the engine stands so. -/
def Did (n E Q B C : Nat) (now : Int) (bz cw : Obj) (w : World) (e : Ending) (w' : World) : Prop := e = .returned .nilIface ∧ Fr E B C w w' ∧ Eng n E Q B C now bz cw w'

/-- An error comes back; nothing that was there has turned. -/
theorem Erred.eng {e : Ending} (h : Eng n E Q B C now bz cw w) (he : Erred w e w') : Eng n E Q B C now bz cw w' := by
  obtain ⟨_, _, _, hb⟩ := he
  exact h.below hb

set_option maxRecDepth 100000 in
set_option maxHeartbeats 1000000 in
theorem handle21 (a b : ByteArray) (ha : a.size ≤ maxLen) (hb : b.size ≤ maxLen) (c : Bool) (h : Eng n E Q B C now (mo a b c) cw w) (t : Int) (ht : now ≤ t) (p q : Nat)
    (h0 : w.cell? ⟨p, 0, none⟩ = some (.pointer (some ⟨E, 0, none⟩))) (h1 : w.cell? ⟨q, 0, none⟩ = some (.string a)) (h2 : w.cell? ⟨q, 1, none⟩ = some (.string b)) :
    Calls Tryf.prog 20 #[.pointer (some ⟨E, 0, none⟩), .int .i64 t, .func (.func 21) #[] #[.pointer (some ⟨p, 0, none⟩), .pointer (some ⟨q, 0, none⟩)]] w (Did n E Q B C t (mo a b true) cw w) := by
  have Ha := hide (adv_ok h t ht)
  have Hc := hide (closure21 a b ha hb c (h.setNow t) p q ((World.cell?_setCell_other _ _ _ _ (by intro c; injection c; omega)).trans h0) ((World.cell?_setCell_other _ _ _ _ (by intro c; injection c; omega)).trans h1) ((World.cell?_setCell_other _ _ _ _ (by intro c; injection c; omega)).trans h2))
  have Hn : Hid (Fr E B C w _) := hide (Fr.setE w 13 (.int .i64 t))
  clear h h0 h1 h2
  go_enter Tryf.func20, Tryf.ntmps20
  go_wp2_with (go_at_call 28; refine Ha.out.mono ?_; rintro e w' ⟨rfl, rfl⟩)
  refine Hc.out.mono ?_
  rintro e w1 ⟨rfl, hb1, e1⟩
  have Ha1 := hide (adv_ok e1 t (Int.le_refl _))
  have He := hide (e1.setNow t)
  have Hb := hide ((Hn.out.trans hb1).trans (Fr.setE w1 13 (.int .i64 t)))
  clear Ha Hc Hn hb1 e1
  go_wp2_with (go_at_call 28; refine Ha1.out.mono ?_; rintro e w' ⟨rfl, rfl⟩)
  go_ret
  exact ⟨rfl, Hb.out, He.out⟩

set_option maxRecDepth 100000 in
set_option maxHeartbeats 1000000 in
theorem handle23 (a b : ByteArray) (ha : a.size ≤ maxLen) (hb : b.size ≤ maxLen) (c : Bool) (h : Eng n E Q B C now bz (mo a b c) w) (t : Int) (ht : now ≤ t) (p q : Nat)
    (h0 : w.cell? ⟨p, 0, none⟩ = some (.pointer (some ⟨E, 0, none⟩))) (h1 : w.cell? ⟨q, 0, none⟩ = some (.string a)) (h2 : w.cell? ⟨q, 1, none⟩ = some (.string b)) :
    Calls Tryf.prog 20 #[.pointer (some ⟨E, 0, none⟩), .int .i64 t, .func (.func 23) #[] #[.pointer (some ⟨p, 0, none⟩), .pointer (some ⟨q, 0, none⟩)]] w (Did n E Q B C t bz (mo a b true) w) := by
  have Ha := hide (adv_ok h t ht)
  have Hc := hide (closure23 a b ha hb c (h.setNow t) p q ((World.cell?_setCell_other _ _ _ _ (by intro c; injection c; omega)).trans h0) ((World.cell?_setCell_other _ _ _ _ (by intro c; injection c; omega)).trans h1) ((World.cell?_setCell_other _ _ _ _ (by intro c; injection c; omega)).trans h2))
  have Hn : Hid (Fr E B C w _) := hide (Fr.setE w 13 (.int .i64 t))
  clear h h0 h1 h2
  go_enter Tryf.func20, Tryf.ntmps20
  go_wp2_with (go_at_call 28; refine Ha.out.mono ?_; rintro e w' ⟨rfl, rfl⟩)
  refine Hc.out.mono ?_
  rintro e w1 ⟨rfl, hb1, e1⟩
  have Ha1 := hide (adv_ok e1 t (Int.le_refl _))
  have He := hide (e1.setNow t)
  have Hb := hide ((Hn.out.trans hb1).trans (Fr.setE w1 13 (.int .i64 t)))
  clear Ha Hc Hn hb1 e1
  go_wp2_with (go_at_call 28; refine Ha1.out.mono ?_; rintro e w' ⟨rfl, rfl⟩)
  go_ret
  exact ⟨rfl, Hb.out, He.out⟩

set_option maxRecDepth 100000 in
set_option maxHeartbeats 1000000 in
/-- handle, out of time; whatever the event. -/
theorem handle_late (F : Interp) (hF : F.answers w.tape) (h : Eng n E Q B C now bz cw w) (t : Int) (ht : t < now) (h1 : -9223372036854775808 ≤ t) (h2 : t ≤ 9223372036854775807) (h3 : -9223372036854775808 ≤ now) (h4 : now ≤ 9223372036854775807) (f : Value) :
    Calls Tryf.prog 20 #[.pointer (some ⟨E, 0, none⟩), .int .i64 t, f] w (Erred w) := by
  have Ha := hide (adv_late F hF h t ht h1 h2 h3 h4)
  clear h
  go_enter Tryf.func20, Tryf.ntmps20
  go_wp2_with (go_at_call 28; refine Ha.out.mono ?_; rintro e w' ⟨ty, x, rfl, hb⟩; have Hb := hide hb; clear hb)
  go_ret
  exact ⟨ty, x, rfl, Hb.out⟩
end Go.Proofs.Qxb6615891aFmt
