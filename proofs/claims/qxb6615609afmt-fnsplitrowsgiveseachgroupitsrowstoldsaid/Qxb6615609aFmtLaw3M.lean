/-
  The law 'FnSplitRowsGivesEachGroupItsRows' (function 3): what its last part leans on.
-/
import Derived.Test.Qxb6615609aFmtLaw3L
namespace Go.Proofs.Qxb6615609aFmt
open Go.RowKit

/-- ZZnewTableWidths: a new block; fields 0, 1 and 4. -/
def TabX (db nm : ByteArray) (v : Value) (w : World) (e : Ending) (w' : World) : Prop :=
  e = .returned (.pointer (some ⟨w.heap.size, 0, none⟩)) ∧ Below w.heap.size w w' ∧ w'.heap.size = w.heap.size + 1 ∧ w'.cell? ⟨w.heap.size, 4, none⟩ = some v ∧ w'.cell? ⟨w.heap.size, 0, none⟩ = some (.string db) ∧ w'.cell? ⟨w.heap.size, 1, none⟩ = some (.string nm)

theorem table9x (db nm : ByteArray) (a : Option Addr) (n c : Nat) (w : World) : Calls Tryf.prog 9 #[.string db, .string nm, .slice a n c] w (TabX db nm (.slice a n c) w) := by
  go_enter Tryf.func9, Tryf.ntmps9
  go_wp2
  go_ret
  refine ⟨rfl, (Below.refl _ _).alloc (Nat.le_refl _) _, by simp, ?_, ?_, ?_⟩
  all_goals
    rw [World.cell?_alloc_new]
    rfl

/-- What SplitRows is handed there. -/
theorem given3 {w : World} {aw : Option Addr} {cw : Nat} {wd : Nat → Int} {rows : Nat} {ad : Option Addr} {nd : Nat} {da : Nat → Option Addr} {dn dc : Nat → Nat} {L : Nat → List UInt8} {ag : Option Addr} {ng : Nat} {ga : Nat → Option Addr} {gn gc : Nat → Nat} {z : Nat → Nat → Int} {bt : Nat}
    (h : Fit w.heap.size w aw nd wd rows ad nd da dn dc L ag ng ga gn gc z) (hbt : bt < w.heap.size) (ht : w.cell? ⟨bt, 4, none⟩ = some (.slice aw nd cw)) :
    Given w.heap.size w bt aw cw nd wd ad da dc L ag ng ga gn gc z rows where
  btlt := hbt
  tab := ht
  widths := h.args.widths
  wd0 := h.wok
  data := h.args.data.congr (fun s hs => by rw [(h.args.dsize s hs).1])
  bytes := fun s hs => by
    have hd := h.args.dsize s hs
    have hl := h.dle s hs
    have hb := h.args.bytes s hs
    obtain ⟨e1, e2, _⟩ := hd
    rw [e1] at e2 hl hb
    exact ⟨hb, e2, by omega⟩
  groups := h.args.groups
  ints := h.args.ints
  inside := fun g i hg hi => h.zok g hg i hi
  glen := h.gle

theorem piece_le (l : List UInt8) (es : List Nat) (z : Nat → Int) : ∀ k, (pieceTo l es z k).length ≤ k * l.length
  | 0 => by simp [pieceTo]
  | k + 1 => by
    have := piece_le l es z k
    rw [pieceTo_succ, List.length_append, List.length_drop, List.length_take, Nat.add_mul]
    omega

theorem piece_le' {l : List UInt8} {es : List Nat} {z : Nat → Int} {k : Nat} (hk : k ≤ 131072) (hl : l.length ≤ 1048576) : (pieceTo l es z k).length ≤ 137438953472 :=
  Nat.le_trans (piece_le l es z k) (Nat.mul_le_mul hk hl)

theorem At.sub {B : Nat} {w : World} {a : Option Addr} {n : Nat} {l : List UInt8} (h : At B w a n (bytesOf l)) (lo hi : Nat) (hhi : hi ≤ n) : At B w (a.map fun x => ⟨x.block, x.off + lo, none⟩) (hi - lo) (bytesOf ((l.take hi).drop lo)) := by
  intro i hi'
  obtain ⟨b, off, ha, hlt, hc⟩ := h (lo + i) (by omega)
  refine ⟨b, off + lo, by rw [ha]; rfl, hlt, ?_⟩
  rw [Nat.add_assoc, hc]
  congr 1
  have : lo + i < hi := by omega
  simp [bytesOf, List.getD_eq_getElem?_getD, List.getElem?_drop, this]

/-- 'true' comes back; nothing that was there has turned. -/
def Trued (w : World) (e : Ending) (w' : World) : Prop := e = .returned (.bool true) ∧ Below w.heap.size w w'

theorem same_at (wr : World) {a1 a2 : Option Addr} {c1 c2 m1 m2 n1 rows i j : Nat} {l1 l2 : List UInt8} {es1 es2 : List Nat} {wd : Int} (h1 : valEnds l1 n1 wd = some es1) (h2 : valEnds l2 rows wd = some es2) (hi : i < n1) (hj : j < rows)
    (hp : pieceOf l1 es1 i = pieceOf l2 es2 j) (hA1 : At wr.heap.size wr a1 m1 (bytesOf l1)) (hm1 : m1 = l1.length) (hA2 : At wr.heap.size wr a2 m2 (bytesOf l2)) (hm2 : m2 = l2.length) (hle : m2 ≤ 1048576) :
    ∃ x1 k1 x2 k2 q, pvA a1 c1 es1 i = .slice x1 q k1 ∧ pvA a2 c2 es2 j = .slice x2 q k2 ∧ ∀ W : World, W = { wr with drawn := W.drawn } → Calls Tryf.prog 11 #[.slice x1 q k1, .slice x2 q k2] W (Trued wr) := by
  have e1 := valEnds_bounds h1 (i : Int) (by omega) (by omega)
  have e2 := valEnds_bounds h2 (j : Int) (by omega) (by omega)
  have q1 : (pieceOf l1 es1 i).length = endAt es1 i - endAt es1 ((i : Int) - 1) := by unfold pieceOf; rw [List.length_drop, List.length_take]; omega
  have q2 : (pieceOf l2 es2 j).length = endAt es2 j - endAt es2 ((j : Int) - 1) := by unfold pieceOf; rw [List.length_drop, List.length_take]; omega
  have s1 := hA1.sub (endAt es1 ((i : Int) - 1)) (endAt es1 i) (by omega)
  have s2 := hA2.sub (endAt es2 ((j : Int) - 1)) (endAt es2 j) (by omega)
  rw [← q1] at s1
  rw [← q2] at s2
  refine ⟨a1.map fun x => ⟨x.block, x.off + endAt es1 ((i : Int) - 1), none⟩, c1 - endAt es1 ((i : Int) - 1), a2.map fun x => ⟨x.block, x.off + endAt es2 ((j : Int) - 1), none⟩, c2 - endAt es2 ((j : Int) - 1), (pieceOf l2 es2 j).length, ?_, ?_, fun W hW => ?_⟩
  · rw [← hp, q1]; rfl
  · rw [q2]; rfl
  · have hb := below_drawn hW
    have s1' : At wr.heap.size wr (a1.map fun x => ⟨x.block, x.off + endAt es1 ((i : Int) - 1), none⟩) (pieceOf l2 es2 j).length (bytesOf (pieceOf l2 es2 j)) := by rw [← hp]; exact s1
    have s2' : At wr.heap.size wr (a2.map fun x => ⟨x.block, x.off + endAt es2 ((j : Int) - 1), none⟩) (pieceOf l2 es2 j).length (bytesOf (pieceOf l2 es2 j)) := s2
    refine (same11 wr.heap.size _ _ (c1 - endAt es1 ((i : Int) - 1)) (c2 - endAt es2 ((j : Int) - 1)) (pieceOf l2 es2 j) W (by omega) (s1'.below hb) (s2'.below hb)).mono ?_
    rintro e w' ⟨rfl, m, rfl⟩
    exact ⟨rfl, hb.trans (below_drewN _ _ _)⟩
end Go.Proofs.Qxb6615609aFmt
