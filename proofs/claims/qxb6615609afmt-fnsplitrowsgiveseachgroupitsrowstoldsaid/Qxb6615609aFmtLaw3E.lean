/-
  The law 'FnSplitRowsGivesEachGroupItsRows' (function 3): from its head to the copy of the widths.
-/
import Derived.Test.Qxb6615609aFmtLaw3
import Derived.Deep.DeepCutAuto
import Derived.Laws.CopyOwn
import Derived.Laws.Concat
namespace Go.Proofs.Qxb6615609aFmt
open Go.RowKit

theorem cell_of_heap {w : World} {g : Nat} {t : TypeId} (l : List Value) (h : w.heap[g]? = some (.cells l.toArray t (0, 0))) (i : Nat) : w.cell? ⟨g, i, none⟩ = l[i]? := by simp [World.cell?, h]

/-- 'copy(zzc, widths)' into the row just made. -/
theorem copy3 (w : World) (a : Addr) (n c : Nat) (wd : Nat → Int) (C : Array Value) (hC : C.size = n) (hat : At w.heap.size w (some a) n fun s => .int .i64 (wd s)) :
    ∃ w1, (Builtin.copy_ #[22, 22] 3 #[.slice (some ⟨w.heap.size, 0, none⟩) n n, .slice (some a) n c]).run Tryf.prog (w.alloc (.cells C 3)) = .ok (.int .i64 n) w1 ∧
      Below w.heap.size w w1 ∧ At w1.heap.size w1 (some ⟨w.heap.size, 0, none⟩) n fun s => .int .i64 (wd s) := by
  rcases Nat.eq_zero_or_pos n with h0 | h0
  · subst h0
    have hr' := run_copy_none (P := Tryf.prog) (w.alloc (.cells C 3)) 22 22 3 3 (some ⟨w.heap.size, 0, none⟩) (some a) 0 0 0 c Tryf.underlying22 (by kernel_rfl) rfl
    exact ⟨_, hr', (Below.refl _ _).alloc (Nat.le_refl _) _, by intro i hi; omega⟩
  obtain ⟨b, off, ha, hb, hr⟩ := hat.addr h0
  cases ha
  have hlen : ((List.range n).map fun i => Value.int .i64 (wd i)).length = n := by simp
  have hr' := run_copy_row (P := Tryf.prog) (w.alloc (.cells C 3)) 22 22 3 3 w.heap.size 0 n n ⟨b, off, none⟩ n c C 3 ((List.range n).map fun i => .int .i64 (wd i))
    Tryf.underlying22 (by kernel_rfl) (Deep.blk_alloc_new _ _) (by simp) (fun j v hj => ?_) (by rw [hlen, hC]; omega) (by simp [Value.oneCell'])
  · rw [hlen] at hr'
    refine ⟨_, hr', below_setRow ((Below.refl _ _).alloc (Nat.le_refl _) _) (Nat.le_refl _) _, ?_⟩
    have hh := setRow_heap (w.alloc (.cells C 3)) w.heap.size C (C.toList.take 0 ++ ((List.range n).map fun i => Value.int .i64 (wd i)) ++ C.toList.drop (0 + n)).toArray 3 (0, 0) (Deep.blk_alloc_new _ _)
    refine At.of_addr (by simp [World.setRow]) fun i hi => ?_
    refine (cell_of_heap _ hh (0 + i)).trans ?_
    rw [Nat.zero_add i, List.take_zero, List.nil_append, List.getElem?_append_left (by simpa using hi)]
    simp [hi]
  · simp only [List.getElem?_map, Option.map_eq_some_iff] at hj
    obtain ⟨i, hi, rfl⟩ := hj
    obtain ⟨hlt, he⟩ := List.getElem?_eq_some_iff.1 hi
    simp at hlt he
    subst he
    have := hr j hlt
    rw [← this, Addr.add_lit]
    exact World.cell?_alloc_past _ _ _ hb

set_option maxRecDepth 100000 in
set_option maxHeartbeats 4000000 in
theorem entry3_some (w : World) (db nm : ByteArray) (nw : Nat) (wd : Nat → Int) (rowz : Int) (ad : Option Addr) (nd cd : Nat) (da : Nat → Option Addr) (dn dc : Nat → Nat) (L : Nat → List UInt8) (ag : Option Addr) (ng cg : Nat) (ga : Nat → Option Addr) (gn gc : Nat → Nat) (z : Nat → Nat → Int) (aw : Addr) (cw : Nat)
    (HA : Hid (PartA w db nm nw wd rowz ad nd cd da dn dc L ag ng cg ga gn gc z)) (H : Hid (Args3 w.heap.size w (some aw) nw wd ad nd da dn dc L ag ng ga gn gc z))
    (hdb : db.size ≤ 9223372036854775807) (hnm : nm.size ≤ 9223372036854775807) (hnw : nw ≤ 9223372036854775807) (hnd : nd ≤ 9223372036854775807) (hng : ng ≤ 9223372036854775807) :
    Calls Tryf.prog 3 #[.string db, .string nm, .slice (some aw) nw cw, .int .i64 rowz, .slice ad nd cd, .slice ag ng cg] w (Held w) := by
  have Hg := hide (guard5 w.heap.size w db nm (some aw) nw cw wd rowz ad nd cd da dn dc L ag ng cg ga gn gc z H hdb hnm hnw hnd hng)
  go_enter Tryf.func3, Tryf.ntmps3
  go_wp2_with fail
  refine Hg.out.mono ?_
  rintro e w' ⟨⟨g, rfl, hg⟩, rfl⟩
  clear Hg
  cases g
  · go_wp2
    go_ret
    exact ⟨rfl, Below.refl _ _⟩
  have hnw1 := hg rfl
  clear hg
  obtain ⟨C, hC, hmk⟩ := mk22 nw hnw1
  have hnil := run_neq_slice_nil_any (P := Tryf.prog) w' 22 3 (some aw) nw cw 0 0 Tryf.underlying22
  obtain ⟨w1, hcp, hb1, hat1⟩ := copy3 w' aw nw cw wd C hC H.out.widths
  have Hb1 := hide hb1
  have Hat1 := hide hat1
  clear hb1 hat1
  by_cases i0 : (1048576 : Int) < db.size
  · go_wp2
    go_ret
    exact ⟨rfl, Below.refl _ _⟩
  by_cases i1 : (1048576 : Int) < nm.size
  · go_wp2
    go_ret
    exact ⟨rfl, Below.refl _ _⟩
  go_upto_region 9 with fail
  have hA := (H.out.below Hb1.out).mono Hb1.out.size
  refine HA.out w1 (some ⟨w'.heap.size, 0, none⟩) nw ⟨Hat1.out, hA.data, hA.dsize, hA.bytes, hA.groups, hA.gsize, hA.ints⟩ Hb1.out (by omega) (by omega) hnw1 hnd hng _ _ _ _ _ _ _ _ _ _ _ _ _ _ _ _ _ _ _ _ _ _ _ _ _ _ _ _ ?_
  assumption

set_option maxRecDepth 100000 in
set_option maxHeartbeats 4000000 in
theorem entry3_none (w : World) (db nm : ByteArray) (wd : Nat → Int) (rowz : Int) (ad : Option Addr) (nd cd : Nat) (da : Nat → Option Addr) (dn dc : Nat → Nat) (L : Nat → List UInt8) (ag : Option Addr) (ng cg : Nat) (ga : Nat → Option Addr) (gn gc : Nat → Nat) (z : Nat → Nat → Int) (cw : Nat)
    (HA : Hid (PartA w db nm 0 wd rowz ad nd cd da dn dc L ag ng cg ga gn gc z)) (H : Hid (Args3 w.heap.size w none 0 wd ad nd da dn dc L ag ng ga gn gc z))
    (hdb : db.size ≤ 9223372036854775807) (hnm : nm.size ≤ 9223372036854775807) (hnd : nd ≤ 9223372036854775807) (hng : ng ≤ 9223372036854775807) :
    Calls Tryf.prog 3 #[.string db, .string nm, .slice none 0 cw, .int .i64 rowz, .slice ad nd cd, .slice ag ng cg] w (Held w) := by
  have Hg := hide (guard5 w.heap.size w db nm none 0 cw wd rowz ad nd cd da dn dc L ag ng cg ga gn gc z H hdb hnm (by omega) hnd hng)
  go_enter Tryf.func3, Tryf.ntmps3
  go_wp2_with fail
  refine Hg.out.mono ?_
  rintro e w' ⟨⟨g, rfl, hg⟩, rfl⟩
  clear Hg hg
  cases g
  · go_wp2
    go_ret
    exact ⟨rfl, Below.refl _ _⟩
  have hnil := run_neq_slice_nil_any (P := Tryf.prog) w' 22 3 none 0 cw 0 0 Tryf.underlying22
  by_cases i0 : (1048576 : Int) < db.size
  · go_wp2
    go_ret
    exact ⟨rfl, Below.refl _ _⟩
  by_cases i1 : (1048576 : Int) < nm.size
  · go_wp2
    go_ret
    exact ⟨rfl, Below.refl _ _⟩
  go_upto_region 9 with fail
  refine HA.out w' none cw H.out (Below.refl _ _) (by omega) (by omega) (by omega) hnd hng _ _ _ _ _ _ _ _ _ _ _ _ _ _ _ _ _ _ _ _ _ _ _ _ _ _ _ _ ?_
  assumption
end Go.Proofs.Qxb6615609aFmt
