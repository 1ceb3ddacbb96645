/-
  zzRowValues (function 8).
-/
import Derived.Test.Qxb6615609aFmtClone
import Derived.Test.Qxb6615609aFmtAgain
import Derived.Test.Qxb6615609aFmtUv
import Derived.Laws.AppendOwn
namespace Go.Proofs.Qxb6615609aFmt
open Go.RowKit

/-- Value i of the byte string at b, off. -/
def pv (b off c : Nat) (es : List Nat) (i : Nat) : Value := .slice (some ⟨b, off + endAt es ((i : Int) - 1), none⟩) (endAt es i - endAt es ((i : Int) - 1)) (c - endAt es ((i : Int) - 1))

/-- The values come back, in a row of their own. -/
def Valued (vs : Nat → Value) (rows : Nat) (w : World) (e : Ending) (w' : World) : Prop :=
  ∃ v, e = .returned (.tuple #[v, .bool true]) ∧ w'.ownsRow w.heap.size 26 1 v rows ((List.range rows).map vs) ∧ Below w.heap.size w w'

/-- No values. -/
def Unread (w : World) (e : Ending) (w' : World) : Prop := e = .returned (.tuple #[.slice none 0 0, .bool false]) ∧ Below w.heap.size w w'

theorem range_snoc (vs : Nat → Value) (k : Nat) : (List.range k).map vs ++ [vs k] = (List.range (k + 1)).map vs := by simp [List.range_succ]

theorem one_new (w : World) (v : Value) (t : TypeId) : ∀ (j : Nat) (u : Value), [v][j]? = some u → (w.alloc (.cells #[v] t)).cell? ((⟨w.heap.size, 0, none⟩ : Addr).add j) = some u := by
  intro j u hj
  cases j with
  | zero =>
    simp at hj
    subst hj
    rw [Addr.add_lit, World.cell?_alloc_new]
    rfl
  | succ j => simp at hj

theorem one_cell (a : Option Addr) (n c : Nat) : ∀ u ∈ [Value.slice a n c], u.oneCell' = true := by
  intro u hu
  simp at hu
  subst hu
  rfl

theorem below_one {w wr w2 : World} {v : Value} {k : Nat} {xs : List Value} {o : Obj} (h : wr.ownsRow w.heap.size 26 1 v k xs) (hb : Below w.heap.size w wr) (hg : (wr.alloc o).grownBy w2 v.ownBlock) : Below w.heap.size w w2 :=
  (hb.alloc hb.size o).trans ((Below.refl _ _).grown hg (by rw [World.size_alloc]; exact Nat.le_succ_of_le hb.size) (fun k hk => (h.lt k hk).1))

set_option maxRecDepth 100000 in
set_option maxHeartbeats 2000000 in
theorem vals_fix (b off n c rows d : Nat) (w : World) (hrows : rows ≤ 131072) (hd : 0 < d) (hd' : d ≤ 16384) (hn : n = rows * d) (hnc : n ≤ c) (hn2 : n ≤ 1099511627776) :
    Calls Tryf.prog 8 #[.slice (some ⟨b, off, none⟩) n c, .int .i64 rows, .int .i64 d] w (Valued (fun i => .slice (some ⟨b, off + i * d, none⟩) d (c - i * d)) rows w) := by
  obtain ⟨i0, hi0, hz0, hz1, hz2⟩ := info_parts info26
  have hrd : IntKind.i64.wrap ((rows : Int) * (d : Int)) = (n : Int) := by rw [← Int.natCast_mul, ← hn, IntKind.wrap_i64]; omega
  have hne : ((n : Int) != (n : Int)) = false := by simp
  have hdp : (0 : Int) < (d : Int) := by omega
  go_enter Tryf.func8, Tryf.ntmps8
  go_wp2
  go_loopw [8, 9] (fun v t wr => ∃ k : Nat, k ≤ rows ∧ t = .int .i64 k ∧ wr.ownsRow w.heap.size 26 1 v k ((List.range k).map fun i => Value.slice (some ⟨b, off + i * d, none⟩) d (c - i * d)) ∧ Below w.heap.size w wr) (fun _ t _ => rows - (intOf t).toNat)
  case atStart => exact ⟨0, by omega, rfl, World.ownsRow_nil _ _ _ _, Below.refl _ _⟩
  case round =>
    obtain ⟨k, hk, rfl, hown, hbel⟩ := hrel
    have Hown := hide hown
    have Hbel := hide hbel
    clear hown hbel
    by_cases hlt : k < rows
    · obtain ⟨kd, hkd⟩ : ∃ kd, kd = k * d := ⟨_, rfl⟩
      have hle : kd + d ≤ n := by
        have : (k + 1) * d ≤ rows * d := Nat.mul_le_mul_right _ hlt
        rw [Nat.add_mul] at this
        omega
      have hw1 : IntKind.i64.wrap ((k : Int) * (d : Int)) = (kd : Int) := by rw [← Int.natCast_mul, ← hkd, IntKind.wrap_i64]; omega
      have hw2 : IntKind.i64.wrap ((kd : Int) + (d : Int)) = ((kd + d : Nat) : Int) := by rw [IntKind.wrap_i64]; omega
      have Hkd := hide hkd
      clear hkd hn
      go_wp2_with (at_builtin; refine wpList_append_own _ rfl _ _ 23 rfl w.heap.size 26 i0 (.slice none 0 0) 1 24 Tryf.underlying23 hi0 hz0 hz1 hz2 ?c1 ?c2 u8 k _ rfl (Hown.out.alloc _) ⟨wr.heap.size, 0, none⟩ 1 1 [Value.slice (some ⟨b, off + kd, none⟩) d (c - kd)] ?c4 ?c5 ?c6 ?c7 ?c8 ?c9 ?c10 ?_)
      case c1 => rfl
      case c2 => omega
      case c4 => rfl
      case c5 => rfl
      case c6 => exact one_new _ _ _
      case c7 => exact one_cell _ _ _
      case c8 => unfold maxLen; omega
      case c9 => omega
      case c10 => rw [World.size_alloc]; exact Nat.le_succ_of_le Hbel.out.size
      intro v2 w2 hown2 hgrow _
      have Hb2 := hide (below_one Hown.out Hbel.out hgrow)
      rw [Hkd.out] at hown2
      have Hown2 := hide (range_snoc (fun i => Value.slice (some ⟨b, off + i * d, none⟩) d (c - i * d)) k ▸ hown2)
      clear hown2 hgrow
      go_wp2
      go_roundw
      case rel => exact ⟨k + 1, by omega, by go_num, Hown2.out, Hb2.out⟩
      case measure => simp [intOf]; omega
    · obtain rfl : k = rows := by omega
      clear hn
      go_wp2
      go_ret2
      exact ⟨_, rfl, Hown.out, Hbel.out⟩
end Go.Proofs.Qxb6615609aFmt
