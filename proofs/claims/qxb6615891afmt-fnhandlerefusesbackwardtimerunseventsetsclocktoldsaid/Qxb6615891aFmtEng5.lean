/-
  Busy (10), SubscribeCallWaiting (13).
-/
import Derived.Test.Qxb6615891aFmtEng4
namespace Go.Proofs.Qxb6615891aFmt
open Go.RowKit Go.Extern.Stop Go.Stop Go.Extern
variable {n E Q B C : Nat} {now : Int} {bz cw : Obj} {w w' : World}

/-- The world in which the closure's two variables are boxed. -/
def boxed (w : World) (E : Nat) (a b : ByteArray) : World := (w.alloc (.cells #[.pointer (some ⟨E, 0, none⟩)] 24)).alloc (.cells #[.string a, .string b] 37)

theorem boxed_below (w : World) (E : Nat) (a b : ByteArray) : Below w.heap.size w (boxed w E a b) := ((Below.refl _ _).alloc (Nat.le_refl _) _).alloc (by simp) _
theorem boxed_ptr (w : World) (E : Nat) (a b : ByteArray) : (boxed w E a b).cell? ⟨w.heap.size, 0, none⟩ = some (.pointer (some ⟨E, 0, none⟩)) := by
  unfold boxed
  go_simp
theorem boxed_a (w : World) (E : Nat) (a b : ByteArray) : (boxed w E a b).cell? ⟨w.heap.size + 1, 0, none⟩ = some (.string a) := by
  unfold boxed
  go_simp
theorem boxed_b (w : World) (E : Nat) (a b : ByteArray) : (boxed w E a b).cell? ⟨w.heap.size + 1, 1, none⟩ = some (.string b) := by
  unfold boxed
  go_simp

set_option maxRecDepth 100000 in
set_option maxHeartbeats 1000000 in
theorem busy10_ok (a b : ByteArray) (ha : a.size ≤ maxLen) (hb : b.size ≤ maxLen) (c : Bool) (h : Eng n E Q B C now (mo a b c) cw w) (t : Int) (ht : now ≤ t) :
    Calls Tryf.prog 10 #[.pointer (some ⟨E, 0, none⟩), .int .i64 t, .agg #[.string a, .string b]] w (Did n E Q B C t (mo a b true) cw w) := by
  have bel := boxed_below w E a b
  have Hh := hide (handle21 a b ha hb c (h.below bel) t ht w.heap.size (w.heap.size + 1) (boxed_ptr w E a b) (boxed_a w E a b) (boxed_b w E a b))
  have Hb : Hid (Fr E B C w _) := hide (Fr.of_below bel)
  unfold boxed at Hh Hb
  clear h bel
  go_enter Tryf.func10, Tryf.ntmps10
  go_wp2_with (go_at_call 20; refine Hh.out.mono ?_; rintro e w' ⟨rfl, hbl, he⟩; have Hbl := hide hbl; have He := hide he; clear hbl he)
  go_ret
  exact ⟨rfl, Hb.out.trans Hbl.out, He.out⟩

set_option maxRecDepth 100000 in
set_option maxHeartbeats 1000000 in
theorem busy10_late (F : Interp) (hF : F.answers w.tape) (a b : ByteArray) (h : Eng n E Q B C now bz cw w) (t : Int) (ht : t < now) (h1 : -9223372036854775808 ≤ t) (h2 : t ≤ 9223372036854775807) (h3 : -9223372036854775808 ≤ now) (h4 : now ≤ 9223372036854775807) :
    Calls Tryf.prog 10 #[.pointer (some ⟨E, 0, none⟩), .int .i64 t, .agg #[.string a, .string b]] w (Erred w) := by
  have bel := boxed_below w E a b
  have Hh := hide (handle_late F (w := boxed w E a b) (by rw [bel.tape]; exact hF) (h.below bel) t ht h1 h2 h3 h4)
  have Hb := hide bel
  unfold boxed at Hh Hb
  clear h bel
  go_enter Tryf.func10, Tryf.ntmps10
  go_wp2_with (go_at_call 20; refine (Hh.out _).mono ?_; rintro e w' ⟨ty, x, rfl, hbl⟩; have Hbl := hide hbl; clear hbl)
  go_ret
  exact ⟨ty, x, rfl, Hb.out.trans (Hbl.out.mono Hb.out.size)⟩

set_option maxRecDepth 100000 in
set_option maxHeartbeats 1000000 in
theorem subs13_ok (a b : ByteArray) (ha : a.size ≤ maxLen) (hb : b.size ≤ maxLen) (c : Bool) (h : Eng n E Q B C now bz (mo a b c) w) (t : Int) (ht : now ≤ t) :
    Calls Tryf.prog 13 #[.pointer (some ⟨E, 0, none⟩), .int .i64 t, .agg #[.string a, .string b]] w (Did n E Q B C t bz (mo a b true) w) := by
  have bel := boxed_below w E a b
  have Hh := hide (handle23 a b ha hb c (h.below bel) t ht w.heap.size (w.heap.size + 1) (boxed_ptr w E a b) (boxed_a w E a b) (boxed_b w E a b))
  have Hb : Hid (Fr E B C w _) := hide (Fr.of_below bel)
  unfold boxed at Hh Hb
  clear h bel
  go_enter Tryf.func13, Tryf.ntmps13
  go_wp2_with (go_at_call 20; refine Hh.out.mono ?_; rintro e w' ⟨rfl, hbl, he⟩; have Hbl := hide hbl; have He := hide he; clear hbl he)
  go_ret
  exact ⟨rfl, Hb.out.trans Hbl.out, He.out⟩

set_option maxRecDepth 100000 in
set_option maxHeartbeats 1000000 in
theorem subs13_late (F : Interp) (hF : F.answers w.tape) (a b : ByteArray) (h : Eng n E Q B C now bz cw w) (t : Int) (ht : t < now) (h1 : -9223372036854775808 ≤ t) (h2 : t ≤ 9223372036854775807) (h3 : -9223372036854775808 ≤ now) (h4 : now ≤ 9223372036854775807) :
    Calls Tryf.prog 13 #[.pointer (some ⟨E, 0, none⟩), .int .i64 t, .agg #[.string a, .string b]] w (Erred w) := by
  have bel := boxed_below w E a b
  have Hh := hide (handle_late F (w := boxed w E a b) (by rw [bel.tape]; exact hF) (h.below bel) t ht h1 h2 h3 h4)
  have Hb := hide bel
  unfold boxed at Hh Hb
  clear h bel
  go_enter Tryf.func13, Tryf.ntmps13
  go_wp2_with (go_at_call 20; refine (Hh.out _).mono ?_; rintro e w' ⟨ty, x, rfl, hbl⟩; have Hbl := hide hbl; clear hbl)
  go_ret
  exact ⟨ty, x, rfl, Hb.out.trans (Hbl.out.mono Hb.out.size)⟩

end Go.Proofs.Qxb6615891aFmt
