/-
  The law 'FnColumnNamesListsColumnsInOrderFreshEachCall' (function 3), walked: it returns true and turns nothing that was there.
-/
import Derived.Test.Qxb6615609aColD
import Derived.Laws.CopyOwn
import Derived.Laws.Concat
namespace Go.Proofs.Qxb6615609a
open Go.RowKit

/-- The law's end: true, nothing that was there has turned. -/
def Held (w : World) (e : Ending) (w' : World) : Prop := e = .returned (.bool true) ∧ Below w.heap.size w w'

/-- Behind k rounds of the loop that overwrites the first answer (block g): from k on the names still stand; whatever was below g is as it was. -/
structure StarsTo (w wr : World) (g : Nat) (f : Nat → ByteArray) (n k : Nat) : Prop where
  below : Below g w wr
  size : wr.heap.size = w.heap.size
  named : ∀ j, k ≤ j → j < n → wr.cell? ⟨g, j, none⟩ = some (.string (f j))
  open_ : ∀ j, j < n → wr.frozen? ⟨g, j, none⟩ = false

theorem StarsTo.step {w wr : World} {g : Nat} {f : Nat → ByteArray} {n k : Nat} (h : StarsTo w wr g f n k) (v : Value) : StarsTo w (wr.setCell ⟨g, k, none⟩ v) g f n (k + 1) where
  below := h.below.setCell (Nat.le_refl _) _
  size := by rw [World.size_setCell]; exact h.size
  named := by
    intro j hj hj'
    rw [World.cell?_setCell_other _ _ _ _ (by intro c; injection c; omega)]
    exact h.named j (by omega) hj'
  open_ := by intro j hj; rw [World.frozen?_setCell]; exact h.open_ j hj

theorem StrRow.below {w w' : World} {B b o n : Nat} {f : Nat → ByteArray} (h : StrRow w b o f n) (hb : Below B w w') (hlt : b < B) : StrRow w' b o f n :=
  fun i hi => (hb.cell (p := ⟨b, o + i, none⟩) hlt).trans (h i hi)

theorem StrRow.of_heap {w : World} {g : Nat} {f : Nat → ByteArray} {n : Nat} {t : TypeId} (L : List Value) (h : w.heap[g]? = some (.cells L.toArray t (0, 0))) (hL : ∀ i, i < n → L[i]? = some (.string (f i))) : StrRow w g 0 f n := by
  intro i hi
  simp [World.cell?, h, hL i hi]

/-- 'copy(zzc, names)' into the row just made. -/
theorem copy22 (w : World) (b off len cap : Nat) (f : Nat → ByteArray) (C : Array Value) (hC : C.size = len) (hb : 0 < len → b < w.heap.size) (hr : StrRow w b off f len) :
    ∃ w1, (Builtin.copy_ #[22, 22] 3 #[.slice (some ⟨w.heap.size, 0, none⟩) len len, .slice (some ⟨b, off, none⟩) len cap]).run Try.prog (w.alloc (.cells C 9)) = .ok (.int .i64 len) w1 ∧
      Below w.heap.size w w1 ∧ w1.heap.size = w.heap.size + 1 ∧ StrRow w1 w.heap.size 0 f len := by
  have hlen : ((List.range len).map fun i => Value.string (f i)).length = len := by simp
  have hr' := run_copy_row (P := Try.prog) (w.alloc (.cells C 9)) 22 22 3 9 w.heap.size 0 len len ⟨b, off, none⟩ len cap C 9 ((List.range len).map fun i => .string (f i))
    Try.underlying22 (by kernel_rfl) (Deep.blk_alloc_new _ _) (by simp) (fun j v hj => ?_) (by rw [hlen, hC]; omega) (by simp [Value.oneCell'])
  · rw [hlen] at hr'
    refine ⟨_, hr', below_setRow ((Below.refl _ _).alloc (Nat.le_refl _) _) (Nat.le_refl _) _, by simp [World.setRow], ?_⟩
    have hh := setRow_heap (w.alloc (.cells C 9)) w.heap.size C (C.toList.take 0 ++ ((List.range len).map fun i => Value.string (f i)) ++ C.toList.drop (0 + len)).toArray 9 (0, 0) (Deep.blk_alloc_new _ _)
    refine StrRow.of_heap _ hh fun i hi => ?_
    rw [List.take_zero, List.nil_append, List.getElem?_append_left (by simpa using hi)]
    simp [hi]
  · simp only [List.getElem?_map, Option.map_eq_some_iff] at hj
    obtain ⟨i, hi, rfl⟩ := hj
    have hi' := List.getElem?_eq_some_iff.1 hi
    obtain ⟨hlt, he⟩ := hi'
    simp at hlt he
    subst he
    have := hr j hlt
    rw [← this, Addr.add_lit]
    exact World.cell?_alloc_past _ _ _ (hb (by omega))

/-- 'copy(zzc, names)' of no element: nothing turns. -/
theorem copy22_empty (w : World) (x : Addr) (cap : Nat) (f : Nat → ByteArray) (C : Array Value) :
    ∃ w1, (Builtin.copy_ #[22, 22] 3 #[.slice (some ⟨w.heap.size, 0, none⟩) 0 0, .slice (some x) 0 cap]).run Try.prog (w.alloc (.cells C 9)) = .ok (.int .i64 ((0 : Nat) : Int)) w1 ∧
      Below w.heap.size w w1 ∧ w1.heap.size = w.heap.size + 1 ∧ StrRow w1 w.heap.size 0 f 0 := by
  have hr' := run_copy_none (P := Try.prog) (w.alloc (.cells C 9)) 22 22 3 9 (some ⟨w.heap.size, 0, none⟩) (some x) 0 0 0 cap Try.underlying22 (by kernel_rfl) rfl
  exact ⟨_, hr', (Below.refl _ _).alloc (Nat.le_refl _) _, by simp, by intro i hi; omega⟩

set_option maxHeartbeats 2000000 in
theorem law3_some (db nm : ByteArray) (x : Addr) (len cap : Nat) (f : Nat → ByteArray) (w : World)
    (hgd : Hid (Calls Try.prog 5 #[.string db, .string nm, .slice (some x) len cap] w fun e w' => Guarded (db.size + nm.size + len) w e w'))
    (hcopy : Hid (∀ C : Array Value, C.size = len → ∃ w1, (Builtin.copy_ #[22, 22] 3 #[.slice (some ⟨w.heap.size, 0, none⟩) len len, .slice (some x) len cap]).run Try.prog (w.alloc (.cells C 9)) = .ok (.int .i64 len) w1 ∧
      Below w.heap.size w w1 ∧ w1.heap.size = w.heap.size + 1 ∧ StrRow w1 w.heap.size 0 f len)) :
    Calls Try.prog 3 #[.string db, .string nm, .slice (some x) len cap] w fun e w' => Held w e w' := by
  go_enter Try.func3, Try.ntmps3
  go_wp2_with fail
  refine hgd.out.mono ?_
  rintro e w' ⟨g, rfl, rfl, hg⟩
  cases g
  · go_wp2
    go_ret
    exact ⟨rfl, Below.refl _ _⟩
  have hsum := hg rfl
  clear hg hgd
  have i0 : ¬ (1048576 : Int) < db.size := by omega
  have i1 : ¬ (1048576 : Int) < nm.size := by omega
  have i2 : ¬ (1048576 : Int) < db.size + nm.size := by omega
  obtain ⟨C, hC, hmk⟩ := mk22 len (by omega)
  have hnil := run_neq_slice_nil_any (P := Try.prog) w' 22 9 (some x) len cap 0 0 Try.underlying22
  obtain ⟨w1, hcp, hb1, hs1, hr1⟩ := hcopy.out C hC
  clear hcopy
  have hbB : Hid (Below w'.heap.size w' w1) := hb1
  clear hb1
  by_cases i3 : (131072 : Int) < len
  · clear hs1 hr1
    go_wp2
    go_ret
    exact ⟨rfl, hbB.out⟩
  by_cases i4 : (1048576 : Int) < db.size + nm.size + 8 * len
  · clear hs1 hr1
    go_wp2
    go_ret
    exact ⟨rfl, hbB.out⟩
  go_wp2
  go_loop [8, 9] (fun z i => ∃ k : Nat, k ≤ len ∧ i = .int .i64 k ∧ (∃ q : Int, z = .int .i64 q ∧ 0 ≤ q ∧ q ≤ 1048576) ∧ ∀ j, j < k → (f j).size ≤ 1048576) (fun _ i => len - (intOf i).toNat)
  case atStart => exact ⟨0, by omega, rfl, ⟨_, rfl, by omega, by omega⟩, by intro j hj; omega⟩
  case round =>
    clear hmk hcp hnil
    obtain ⟨k, hk, rfl, ⟨q, rfl, hq0, hq1⟩, hsz⟩ := hrel
    by_cases hlt : k < len
    · have hck := hr1 k hlt
      rw [Nat.zero_add] at hck
      have Hsz : Hid (∀ j, j < k → (f j).size ≤ 1048576) := hsz
      clear hr1 hs1 hsz
      by_cases d0 : (1048576 : Int) < (f k).size
      · go_wp2
        go_ret
        exact ⟨rfl, hbB.out⟩
      by_cases d1 : (1048576 : Int) < q + (f k).size
      · go_wp2
        go_ret
        exact ⟨rfl, hbB.out⟩
      go_wp2
      go_round
      case rel => exact ⟨k + 1, by omega, by go_num, ⟨_, rfl, by omega, by omega⟩, by intro j hj; by_cases e : j = k; (subst e; omega); exact Hsz.out j (by omega)⟩
      case measure => simp [intOf]; omega
    · have Hsz : Hid (∀ j, j < k → (f j).size ≤ 1048576) := hsz
      clear hsz
      have hw1 : w'.heap.size < w1.heap.size := by omega
      have hkl : Hid (k = len) := by show k = len; omega
      clear hs1
      go_wp2_with fail
      refine (table6 db nm w'.heap.size 0 len len f w1 (by omega) (fun _ => hw1) hr1).mono ?_
      rintro e w2 ⟨rfl, hb2, hs2, hc2, hn2⟩
      have hw2 : w1.heap.size + 1 < w2.heap.size := by omega
      have hr2 : StrRow w2 w'.heap.size 0 f len := hr1.below hb2 hw1
      have hbB2 : Hid (Below w'.heap.size w' w2) := hbB.out.trans (hb2.mono (by omega))
      clear hs2 hb2 hr1 hbB
      go_wp2_with fail
      refine (names7 (w1.heap.size + 1) w1.heap.size len f w2 (by omega) (by omega) (by omega) hc2 hn2).mono ?_
      rintro e w3 ⟨rfl, h3⟩
      have hr3 : StrRow w3 w2.heap.size 0 f len := fun i hi => by rw [Nat.zero_add]; exact h3.named i hi
      have hr3' : StrRow w3 w'.heap.size 0 f len := hr2.below h3.below (by omega)
      have hw3 : w2.heap.size < w3.heap.size := by have := h3.size; omega
      have hc3 := (h3.below.cell (p := ⟨w1.heap.size + 1, 2, none⟩) (by show w1.heap.size + 1 < _; omega)).trans hc2
      have hn3 : ∀ j, j < len → w3.cell? ⟨w1.heap.size, j * 8, none⟩ = some (.string (f j)) := fun j hj => (h3.below.cell (p := ⟨w1.heap.size, j * 8, none⟩) (by show w1.heap.size < _; omega)).trans (hn2 j hj)
      have hbB3 : Hid (Below w'.heap.size w' w3) := hbB2.out.trans (h3.below.mono (by omega))
      have H3 : Hid (StarsTo w3 w3 w2.heap.size f len 0) := ⟨Below.refl _ _, rfl, fun j _ hj => h3.named j hj, h3.open_⟩
      clear h3 hr2 hc2 hn2 hbB2
      go_wp2_with fail
      refine (same8_rows w2.heap.size 0 w'.heap.size 0 len len len f w3 (by omega) hr3 hr3').mono ?_
      rintro e w4 ⟨rfl, m, rfl⟩
      clear hr3
      have H4 : Hid (StarsTo w3 (w3.drewN m) w2.heap.size f len 0) := ⟨⟨rfl, rfl, rfl, Nat.le_refl _, fun _ _ => rfl⟩, rfl, H3.out.named, H3.out.open_⟩
      clear H3
      go_wp2_with fail
      go_loopw [12] (fun i wr => ∃ k : Nat, k ≤ len ∧ i = .int .i64 k ∧ StarsTo w3 wr w2.heap.size f len k) (fun i _ => len - (intOf i).toNat)
      case atStart => exact ⟨0, by omega, rfl, H4.out⟩
      case round =>
        clear H4
        obtain ⟨l, hl, rfl, hs⟩ := hrel
        by_cases hll : l < len
        · have hcl := hs.named l (Nat.le_refl _) hll
          have hfl := hs.open_ l hll
          have hsz : (f l).size ≤ 1048576 := Hsz.out l (by have := hkl.out; omega)
          have HS : Hid (∀ v, StarsTo w3 (wr.setCell ⟨w2.heap.size, l, none⟩ v) w2.heap.size f len (l + 1)) := fun v => hs.step v
          clear hs hc3 hn3 hr3'
          go_wp2
          go_roundw
          case rel => exact ⟨l + 1, by omega, by go_num, HS.out _⟩
          case measure => simp [intOf]; omega
        · have hc5 := (hs.below.cell (p := ⟨w1.heap.size + 1, 2, none⟩) (by show w1.heap.size + 1 < _; omega)).trans hc3
          have hn5 : ∀ j, j < len → wr.cell? ⟨w1.heap.size, j * 8, none⟩ = some (.string (f j)) := fun j hj => (hs.below.cell (p := ⟨w1.heap.size, j * 8, none⟩) (by show w1.heap.size < _; omega)).trans (hn3 j hj)
          have hr5 : StrRow wr w'.heap.size 0 f len := hr3'.below hs.below (by omega)
          have hw5 : w2.heap.size < wr.heap.size := by have := hs.size; omega
          have hbB5 : Hid (Below w'.heap.size w' wr) := hbB3.out.trans (hs.below.mono (by omega))
          clear hs hc3 hn3 hr3' hbB3 Hsz hkl
          go_wp2_with fail
          refine (names7 (w1.heap.size + 1) w1.heap.size len f wr (by omega) (by omega) (by omega) hc5 hn5).mono ?_
          rintro e w6 ⟨rfl, h6⟩
          have hr6 : StrRow w6 wr.heap.size 0 f len := fun i hi => by rw [Nat.zero_add]; exact h6.named i hi
          have hr6' : StrRow w6 w'.heap.size 0 f len := hr5.below h6.below (by omega)
          have hbB6 : Hid (Below w'.heap.size w' w6) := hbB5.out.trans (h6.below.mono (by omega))
          clear h6 hr5 hc5 hn5 hbB5
          go_wp2_with fail
          refine (same8_rows wr.heap.size 0 w'.heap.size 0 len len len f w6 (by omega) hr6 hr6').mono ?_
          rintro e w7 ⟨rfl, m', rfl⟩
          clear hr6 hr6'
          go_wp2
          go_ret
          exact ⟨rfl, hbB6.out.trans ⟨rfl, rfl, rfl, Nat.le_refl _, fun _ _ => rfl⟩⟩

theorem law3_row (db nm : ByteArray) (b off len cap : Nat) (f : Nat → ByteArray) (w : World) (h0 : db.size ≤ maxLen) (h1 : nm.size ≤ maxLen) (hl : len ≤ maxLen) (hf : ∀ i, i < len → (f i).size ≤ maxLen) (hb : 0 < len → b < w.heap.size) (hr : StrRow w b off f len) :
    Calls Try.prog 3 #[.string db, .string nm, .slice (some ⟨b, off, none⟩) len cap] w fun e w' => Held w e w' :=
  law3_some db nm ⟨b, off, none⟩ len cap f w (guard5_row db nm b off len cap f w h0 h1 hl hf hr) (fun C hC => copy22 w b off len cap f C hC hb hr)

theorem law3_empty (db nm : ByteArray) (x : Addr) (cap : Nat) (w : World) (h0 : db.size ≤ maxLen) (h1 : nm.size ≤ maxLen) :
    Calls Try.prog 3 #[.string db, .string nm, .slice (some x) 0 cap] w fun e w' => Held w e w' :=
  law3_some db nm x 0 cap (fun _ => ByteArray.empty) w (guard5_empty db nm (some x) cap w h0 h1) (fun C _ => copy22_empty w x cap _ C)
end Go.Proofs.Qxb6615609a
