/-
  zzCloneInts (6), zzCloneBytes (15), zzCloneRows (7), zzSameBytes (11).
-/
import Derived.Test.Qxb6615609aFmtSplitA
import Derived.Test.Qxb6615609aFmtEnds
import Derived.BigQuiet
import Derived.Lib.LazyBuf
namespace Go.Proofs.Qxb6615609aFmt
open Go.RowKit

theorem mk26 (n : Nat) (hn : n ≤ 1048576) : ∃ C : Array Value, C.size = n ∧ ∀ w : World, (Instr.makeSlice 26 (.int .i64 (n : Int)) (.int .i64 (n : Int))).run Tryf.prog w = .ok (.slice (some ⟨w.heap.size, 0, none⟩) n n) (w.alloc (.cells C 5)) :=
  ⟨madeCells #[.int .u8 0] n, size_madeCells _ _, fun w => run_make_row' (P := Tryf.prog) 26 5 (.int .u8 0) 1 Tryf.underlying26 info5 rfl .i64 .i64 n (by omega) (by omega) w⟩

/-- Behind k rounds: block H is a row whose first k cells hold. -/
structure RowTo (w wr : World) (H : Nat) (P : World → Nat → Value → Prop) (n k : Nat) : Prop where
  below : Below H w wr
  lt : H < wr.heap.size
  done : ∀ j, j < k → ∃ v, wr.cell? ⟨H, j, none⟩ = some v ∧ P wr j v
  there : ∀ j, j < n → ∃ v, wr.cell? ⟨H, j, none⟩ = some v
  open_ : ∀ j, j < n → wr.frozen? ⟨H, j, none⟩ = false

theorem RowTo.start (w : World) (P : World → Nat → Value → Prop) (n : Nat) (C : Array Value) (t : TypeId) (hC : C.size = n) : RowTo w (w.alloc (.cells C t)) w.heap.size P n 0 where
  below := (Below.refl _ _).alloc (Nat.le_refl _) _
  lt := by simp
  done := by intro j hj; omega
  there := by intro j hj; exact ⟨C[j]'(by omega), by rw [World.cell?_alloc_new]; simp [hC, hj]⟩
  open_ := by intro j hj; simp

theorem RowTo.step {w wr : World} {H : Nat} {P : World → Nat → Value → Prop} {n k : Nat} (h : RowTo w wr H P n k) (hk : k < n) (v : Value) (hold : ∀ j u, j < k → P wr j u → P (wr.setCell ⟨H, k, none⟩ v) j u) (hnew : P (wr.setCell ⟨H, k, none⟩ v) k v) :
    RowTo w (wr.setCell ⟨H, k, none⟩ v) H P n (k + 1) where
  below := h.below.setCell (Nat.le_refl _) _
  lt := by rw [World.size_setCell]; exact h.lt
  done := by
    intro j hj
    by_cases e : j = k
    · subst e
      obtain ⟨u, hu⟩ := h.there j hk
      exact ⟨v, World.cell?_setCell_same _ _ _ hu, hnew⟩
    · obtain ⟨u, hu, hp⟩ := h.done j (by omega)
      exact ⟨u, by rw [World.cell?_setCell_other _ _ _ _ (by intro c; injection c; omega)]; exact hu, hold j u (by omega) hp⟩
  there := by
    intro j hj
    by_cases e : j = k
    · subst e
      obtain ⟨u, hu⟩ := h.there _ hj
      exact ⟨_, World.cell?_setCell_same _ _ _ hu⟩
    · rw [World.cell?_setCell_other _ _ _ _ (by intro c; injection c; omega)]
      exact h.there j hj
  open_ := by intro j hj; rw [World.frozen?_setCell]; exact h.open_ j hj

theorem RowTo.grow {w wr w' : World} {H : Nat} {P : World → Nat → Value → Prop} {n k : Nat} (h : RowTo w wr H P n k) (hb : Below wr.heap.size wr w') (hold : ∀ j u, j < k → P wr j u → P w' j u) : RowTo w w' H P n k where
  below := h.below.trans (hb.mono (Nat.le_of_lt h.lt))
  lt := Nat.lt_of_lt_of_le h.lt hb.size
  done := by
    intro j hj
    obtain ⟨u, hu, hp⟩ := h.done j hj
    exact ⟨u, (hb.cell (p := ⟨H, j, none⟩) h.lt).trans hu, hold j u hj hp⟩
  there := by
    intro j hj
    obtain ⟨u, hu⟩ := h.there j hj
    exact ⟨u, (hb.cell (p := ⟨H, j, none⟩) h.lt).trans hu⟩
  open_ := by intro j hj; exact (hb.frozen (p := ⟨H, j, none⟩) h.lt).trans (h.open_ j hj)

/-- A new slice of the same elements comes back (nil for nil); nothing that was there has turned. -/
def Cloned (f : Nat → Value) (n : Nat) (w : World) (e : Ending) (w' : World) : Prop :=
  ∃ a' c', e = .returned (.slice a' n c') ∧ n ≤ c' ∧ Below w.heap.size w w' ∧ ∀ i, i < n → ∃ b, a' = some ⟨b, 0, none⟩ ∧ w.heap.size ≤ b ∧ b < w'.heap.size ∧ w'.cell? ⟨b, i, none⟩ = some (f i)

theorem cloned_end {w wr : World} {f : Nat → Value} {n : Nat} (h : RowTo w wr w.heap.size (fun _ j v => v = f j) n n) : Cloned f n w (.returned (.slice (some ⟨w.heap.size, 0, none⟩) n n)) wr :=
  ⟨_, n, rfl, Nat.le_refl _, h.below, fun i hi => by
    obtain ⟨v, hv, rfl⟩ := h.done i hi
    exact ⟨_, rfl, Nat.le_refl _, h.lt, hv⟩⟩

set_option maxHeartbeats 1000000 in
theorem ints6 (B : Nat) (a : Option Addr) (n c : Nat) (z : Nat → Int) (w : World) (hn : n ≤ 1048576) (hB : B ≤ w.heap.size) (hat : At B w a n fun i => .int .i64 (z i)) : Calls Tryf.prog 6 #[.slice a n c] w (Cloned (fun i => .int .i64 (z i)) n w) := by
  obtain ⟨C, hC, hmk⟩ := mk22 n hn
  cases a with
  | none =>
    obtain rfl : n = 0 := by
      rcases Nat.eq_zero_or_pos n with h | h
      · exact h
      · obtain ⟨b, off, hx, _⟩ := hat 0 h
        cases hx
    have heq := fun w => run_eql_slice_nil (P := Tryf.prog) w 22 3 none 0 c Tryf.underlying22
    go_enter Tryf.func6, Tryf.ntmps6
    go_wp2
    go_ret
    exact ⟨none, 0, rfl, Nat.le_refl _, Below.refl _ _, fun i hi => by omega⟩
  | some a =>
    have H0 := hide (RowTo.start w (fun _ j v => v = .int .i64 (z j)) n C 3 hC)
    have Hat := hide hat
    have heq := fun w => run_eql_slice_nil (P := Tryf.prog) w 22 3 (some a) n c Tryf.underlying22
    clear hat
    go_enter Tryf.func6, Tryf.ntmps6
    go_wp2
    go_loopw [4] (fun t wr => ∃ k : Nat, k ≤ n ∧ t = .int .i64 k ∧ RowTo w wr w.heap.size (fun _ j v => v = .int .i64 (z j)) n k) (fun t _ => n - (intOf t).toNat)
    case atStart => exact ⟨0, by omega, rfl, H0.out⟩
    case round =>
      obtain ⟨k, hk, rfl, hr⟩ := hrel
      clear H0 hmk hC
      by_cases hlt : k < n
      · obtain ⟨b, off, hx, hbB, hc⟩ := Hat.out k hlt
        cases hx
        have hck := (hr.below.cell (p := ⟨b, off + k, none⟩) (show b < _ by omega)).trans hc
        obtain ⟨v, hv⟩ := hr.there k hlt
        have hf := hr.open_ k hlt
        have Hs := hide (hr.step hlt (.int .i64 (z k)) (fun _ _ _ h => h) rfl)
        clear hr hc
        go_wp2
        go_roundw
        case rel => exact ⟨k + 1, by omega, by go_num, Hs.out⟩
        case measure => simp [intOf]; omega
      · obtain rfl : k = n := by omega
        have Hs := hide (cloned_end hr)
        clear hr
        go_wp2
        go_ret
        exact Hs.out
set_option maxHeartbeats 1000000 in
theorem bytes15 (B : Nat) (a : Option Addr) (n c : Nat) (l : List UInt8) (w : World) (hn : n ≤ 1048576) (hB : B ≤ w.heap.size) (hat : At B w a n (bytesOf l)) : Calls Tryf.prog 15 #[.slice a n c] w (Cloned (bytesOf l) n w) := by
  obtain ⟨C, hC, hmk⟩ := mk26 n hn
  cases a with
  | none =>
    obtain rfl : n = 0 := by
      rcases Nat.eq_zero_or_pos n with h | h
      · exact h
      · obtain ⟨b, off, hx, _⟩ := hat 0 h
        cases hx
    have heq := fun w => run_eql_slice_nil (P := Tryf.prog) w 26 5 none 0 c Tryf.underlying26
    go_enter Tryf.func15, Tryf.ntmps15
    go_wp2
    go_ret
    exact ⟨none, 0, rfl, Nat.le_refl _, Below.refl _ _, fun i hi => by omega⟩
  | some a =>
    have H0 := hide (RowTo.start w (fun _ j v => v = bytesOf l j) n C 5 hC)
    have Hat := hide hat
    have heq := fun w => run_eql_slice_nil (P := Tryf.prog) w 26 5 (some a) n c Tryf.underlying26
    clear hat
    go_enter Tryf.func15, Tryf.ntmps15
    go_wp2
    go_loopw [4] (fun t wr => ∃ k : Nat, k ≤ n ∧ t = .int .i64 k ∧ RowTo w wr w.heap.size (fun _ j v => v = bytesOf l j) n k) (fun t _ => n - (intOf t).toNat)
    case atStart => exact ⟨0, by omega, rfl, H0.out⟩
    case round =>
      obtain ⟨k, hk, rfl, hr⟩ := hrel
      clear H0 hmk hC
      by_cases hlt : k < n
      · obtain ⟨b, off, hx, hbB, hc⟩ := Hat.out k hlt
        cases hx
        have hck := (hr.below.cell (p := ⟨b, off + k, none⟩) (show b < _ by omega)).trans hc
        obtain ⟨v, hv⟩ := hr.there k hlt
        have hf := hr.open_ k hlt
        obtain ⟨x, hxe⟩ : ∃ x : Int, bytesOf l k = .int .u8 x := ⟨_, rfl⟩
        rw [hxe] at hck
        have Hs := hide (hr.step hlt (.int .u8 x) (fun _ _ _ h => h) hxe.symm)
        clear hr hc
        go_wp2
        go_roundw
        case rel => exact ⟨k + 1, by omega, by go_num, Hs.out⟩
        case measure => simp [intOf]; omega
      · obtain rfl : k = n := by omega
        have Hs := hide (cloned_end hr)
        clear hr
        go_wp2
        go_ret
        exact Hs.out

/-- What lies in a cell of the clone of the rows. -/
def RowOf (lo : Nat) (L : Nat → List UInt8) (w : World) (j : Nat) (v : Value) : Prop := ∃ a' c', v = .slice a' (L j).length c' ∧ (L j).length ≤ c' ∧ Own lo w a' (L j)

theorem Own.below {lo : Nat} {w w' : World} {a : Option Addr} {l : List UInt8} (h : Own lo w a l) (hb : Below w.heap.size w w') : Own lo w' a l := by
  intro i hi
  obtain ⟨b, ha, hlo, hlt, hc⟩ := h i hi
  exact ⟨b, ha, hlo, Nat.lt_of_lt_of_le hlt hb.size, (hb.cell (p := ⟨b, i, none⟩) hlt).trans hc⟩

theorem Own.set {lo g k : Nat} {w : World} {a : Option Addr} {l : List UInt8} (h : Own lo w a l) (hg : g < lo) (v : Value) : Own lo (w.setCell ⟨g, k, none⟩ v) a l := by
  intro i hi
  obtain ⟨b, ha, hlo, hlt, hc⟩ := h i hi
  exact ⟨b, ha, hlo, by rw [World.size_setCell]; exact hlt, by rw [World.cell?_setCell_other _ _ _ _ (by intro c; injection c; omega)]; exact hc⟩

/-- New rows of the same bytes. -/
def ClonedRows (L : Nat → List UInt8) (n : Nat) (w : World) (e : Ending) (w' : World) : Prop :=
  ∃ a' c', e = .returned (.slice a' n c') ∧ n ≤ c' ∧ Below w.heap.size w w' ∧ (0 < n → ∃ b, a' = some ⟨b, 0, none⟩ ∧ w.heap.size ≤ b ∧ b < w'.heap.size ∧ ∀ i, i < n → ∃ v, w'.cell? ⟨b, i, none⟩ = some v ∧ RowOf (w.heap.size + 1) L w' i v)

set_option maxHeartbeats 1000000 in
theorem rows7 (B : Nat) (a : Option Addr) (n c : Nat) (da : Nat → Option Addr) (dc : Nat → Nat) (L : Nat → List UInt8) (w : World) (hn : n ≤ 1048576) (hB : B ≤ w.heap.size) (hat : At B w a n fun s => .slice (da s) (L s).length (dc s))
    (hin : ∀ s, s < n → (L s).length ≤ 1048576 ∧ At B w (da s) (L s).length (bytesOf (L s))) : Calls Tryf.prog 7 #[.slice a n c] w (ClonedRows L n w) := by
  obtain ⟨C, hC, hmk⟩ := mk23 n hn
  cases a with
  | none =>
    obtain rfl : n = 0 := by
      rcases Nat.eq_zero_or_pos n with h | h
      · exact h
      · obtain ⟨b, off, hx, _⟩ := hat 0 h
        cases hx
    have heq := fun w => run_eql_slice_nil (P := Tryf.prog) w 23 26 none 0 c Tryf.underlying23
    go_enter Tryf.func7, Tryf.ntmps7
    go_wp2
    go_ret
    exact ⟨none, 0, rfl, Nat.le_refl _, Below.refl _ _, fun h => by omega⟩
  | some a =>
    have H0 := hide (RowTo.start w (RowOf (w.heap.size + 1) L) n C 26 hC)
    have Hat := hide hat
    have Hin := hide hin
    have heq := fun w => run_eql_slice_nil (P := Tryf.prog) w 23 26 (some a) n c Tryf.underlying23
    clear hat hin
    go_enter Tryf.func7, Tryf.ntmps7
    go_wp2
    go_loopw [4] (fun t wr => ∃ k : Nat, k ≤ n ∧ t = .int .i64 k ∧ RowTo w wr w.heap.size (RowOf (w.heap.size + 1) L) n k) (fun t _ => n - (intOf t).toNat)
    case atStart => exact ⟨0, by omega, rfl, H0.out⟩
    case round =>
      obtain ⟨k, hk, rfl, hr⟩ := hrel
      clear H0 hmk hC
      by_cases hlt : k < n
      · obtain ⟨b, off, hx, hbB, hc⟩ := Hat.out k hlt
        cases hx
        have hck := (hr.below.cell (p := ⟨b, off + k, none⟩) (show b < _ by omega)).trans hc
        obtain ⟨hll, hbk⟩ := Hin.out k hlt
        have Hc := hide (bytes15 B (da k) (L k).length (dc k) (L k) wr hll (Nat.le_trans hB (Nat.le_of_lt hr.lt)) (hbk.below (hr.below.mono hB)))
        have Hr := hide hr
        clear hr hc hbk
        go_wp2_with (go_at_call 15; refine Hc.out.mono ?_)
        rintro e w2 ⟨a2, c2, rfl, hlc, hb2, hown⟩
        have hown' : Own (w.heap.size + 1) w2 a2 (L k) := by
          intro i hi
          obtain ⟨b2, h1, h2, h3, h4⟩ := hown i hi
          exact ⟨b2, h1, Nat.le_trans Hr.out.lt h2, h3, h4⟩
        have hr2 := Hr.out.grow hb2 (fun j u _ ⟨a', c', e1, e2, e3⟩ => ⟨a', c', e1, e2, e3.below hb2⟩)
        obtain ⟨v, hv⟩ := hr2.there k hlt
        have hf := hr2.open_ k hlt
        have Hs := hide (hr2.step hlt (.slice a2 (L k).length c2) (fun j u _ ⟨a', c', e1, e2, e3⟩ => ⟨a', c', e1, e2, e3.set (Nat.lt_succ_self _) _⟩) ⟨a2, c2, rfl, hlc, hown'.set (Nat.lt_succ_self _) _⟩)
        clear hr2 Hr Hc hown hown' hb2
        generalize (L k).length = lk at Hs hck hlc
        go_wp2
        go_roundw
        case rel => exact ⟨k + 1, by omega, by go_num, Hs.out⟩
        case measure => simp [intOf]; omega
      · obtain rfl : k = n := by omega
        have Hs : Hid (ClonedRows L k w (.returned (.slice (some ⟨w.heap.size, 0, none⟩) k k)) wr) := hide ⟨_, k, rfl, Nat.le_refl _, hr.below, fun _ => ⟨_, rfl, Nat.le_refl _, hr.lt, hr.done⟩⟩
        clear hr
        go_wp2
        go_ret
        exact Hs.out

set_option maxHeartbeats 1000000 in
theorem same11 (B : Nat) (a1 a2 : Option Addr) (c1 c2 : Nat) (l : List UInt8) (w : World) (hl : l.length ≤ 4398046511104) (h1 : At B w a1 l.length (bytesOf l)) (h2 : At B w a2 l.length (bytesOf l)) :
    Calls Tryf.prog 11 #[.slice a1 l.length c1, .slice a2 l.length c2] w (Drawn (.bool true) w) := by
  have H1 := hide h1
  have H2 := hide h2
  clear h1 h2
  obtain ⟨n, hnn⟩ : ∃ n, n = l.length := ⟨_, rfl⟩
  rw [← hnn] at H1 H2 hl ⊢
  clear hnn
  go_enter Tryf.func11, Tryf.ntmps11
  go_wp2
  go_loopw [5] (fun t wr => ∃ k m : Nat, k ≤ n ∧ t = .int .i64 k ∧ wr = w.drewN m) (fun t _ => n - (intOf t).toNat)
  case atStart => exact ⟨0, 0, by omega, rfl, rfl⟩
  case round =>
    obtain ⟨k, m, hk, rfl, hw⟩ := hrel
    by_cases hlt : k < n
    · obtain ⟨b1, o1, hx1, _, hc1⟩ := H1.out k hlt
      obtain ⟨b2, o2, hx2, _, hc2⟩ := H2.out k hlt
      subst hx1
      subst hx2
      have k1 : wr.cell? ⟨b1, o1 + k, none⟩ = some (bytesOf l k) := by rw [hw]; exact hc1
      have k2 : wr.cell? ⟨b2, o2 + k, none⟩ = some (bytesOf l k) := by rw [hw]; exact hc2
      unfold bytesOf at k1 k2
      have Hw := hide hw
      clear hc1 hc2 hw
      go_wp2
      go_quiet (fail)
      go_wp2
      go_roundw
      case rel =>
        have := Hw.out
        subst this
        exact ⟨k + 1, _, by omega, by go_num, World.drewN_drewN _ _ _⟩
      case measure => simp [intOf]; omega
    · have Hw := hide hw
      clear hw
      go_wp2
      go_ret
      exact ⟨rfl, m, Hw.out⟩
end Go.Proofs.Qxb6615609aFmt
