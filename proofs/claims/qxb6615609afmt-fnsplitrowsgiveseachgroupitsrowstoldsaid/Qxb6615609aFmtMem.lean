/-
  What is known of a slice in memory, said by a function on its indices; and that it stays known while nothing below B turns.
-/
import Derived.Below
import Derived.Carry
import Derived.Deep.Draws
import Derived.Lib.Walk
import Derived.Laws.OwnMore
namespace Go.Proofs.Qxb6615609aFmt
open Go.RowKit

theorem hide {p : Prop} (h : p) : Hid p := h

/-- The n elements of a slice with address a: element i is 'f i', in a block below B. -/
def At (B : Nat) (w : World) (a : Option Addr) (n : Nat) (f : Nat → Value) : Prop :=
  ∀ i, i < n → ∃ b off, a = some ⟨b, off, none⟩ ∧ b < B ∧ w.cell? ⟨b, off + i, none⟩ = some (f i)

/-- The bytes of a list, as cells. -/
def bytesOf (l : List UInt8) (i : Nat) : Value := .int .u8 ((l.getD i 0).toNat : Int)

theorem At.below {B : Nat} {w w' : World} {a : Option Addr} {n : Nat} {f : Nat → Value} (h : At B w a n f) (hb : Below B w w') : At B w' a n f := by
  intro i hi
  obtain ⟨b, off, ha, hlt, hc⟩ := h i hi
  exact ⟨b, off, ha, hlt, (hb.cell (p := ⟨b, off + i, none⟩) hlt).trans hc⟩

theorem At.mono {B B' : Nat} {w : World} {a : Option Addr} {n : Nat} {f : Nat → Value} (h : At B w a n f) (hB : B ≤ B') : At B' w a n f := by
  intro i hi
  obtain ⟨b, off, ha, hlt, hc⟩ := h i hi
  exact ⟨b, off, ha, by omega, hc⟩

/-- One address serves all elements. -/
theorem At.addr {B : Nat} {w : World} {a : Option Addr} {n : Nat} {f : Nat → Value} (h : At B w a n f) (hn : 0 < n) :
    ∃ b off, a = some ⟨b, off, none⟩ ∧ b < B ∧ ∀ i, i < n → w.cell? ⟨b, off + i, none⟩ = some (f i) := by
  obtain ⟨b, off, ha, hlt, _⟩ := h 0 hn
  refine ⟨b, off, ha, hlt, fun i hi => ?_⟩
  obtain ⟨b', off', ha', _, hc'⟩ := h i hi
  rw [ha] at ha'
  simp only [Option.some.injEq, Addr.mk.injEq] at ha'
  obtain ⟨rfl, rfl, _⟩ := ha'
  exact hc'

theorem At.addr' {B b off : Nat} {w : World} {n : Nat} {f : Nat → Value} (h : At B w (some ⟨b, off, none⟩) n f) {i : Nat} (hi : i < n) : w.cell? ⟨b, off + i, none⟩ = some (f i) := by
  obtain ⟨b', off', ha, _, hc⟩ := h i hi
  simp only [Option.some.injEq, Addr.mk.injEq] at ha
  obtain ⟨rfl, rfl, _⟩ := ha
  exact hc

theorem At.of_addr {B b off : Nat} {w : World} {n : Nat} {f : Nat → Value} (hb : b < B) (h : ∀ i, i < n → w.cell? ⟨b, off + i, none⟩ = some (f i)) : At B w (some ⟨b, off, none⟩) n f :=
  fun i hi => ⟨b, off, rfl, hb, h i hi⟩

theorem At.drewN {B : Nat} {w : World} {a : Option Addr} {n : Nat} {f : Nat → Value} (h : At B w a n f) (m : Nat) : At B (w.drewN m) a n f := h

theorem below_drewN (B : Nat) (w : World) (m : Nat) : Below B w (w.drewN m) := ⟨rfl, rfl, rfl, Nat.le_refl _, fun _ _ => rfl⟩

/-- The call hands back v; the world has at most drawn. -/
def Drawn (v : Value) (w : World) (e : Ending) (w' : World) : Prop := e = .returned v ∧ ∃ m, w' = w.drewN m

/-- The call hands back v; nothing below the old heap's end has turned. -/
def Made (v : Value) (w : World) (e : Ending) (w' : World) : Prop := e = .returned v ∧ Below w.heap.size w w'

end Go.Proofs.Qxb6615609aFmt
