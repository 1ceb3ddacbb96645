/-
  The law on the clock (function 5): its walk.
-/
import Derived.Test.Qxb6615891aFmtClock
namespace Go.Proofs.Qxb6615891aFmt
open Go.RowKit Go.Extern.Stop Go.Stop Go.Extern

/-- The times, said by a function on their indices. -/
def Nums (w : World) (x : Option Addr) (len : Nat) (z : Nat → Int) : Prop :=
  ∀ i, i < len → (-9223372036854775808 ≤ z i ∧ z i ≤ 9223372036854775807) ∧ ∃ bb off, x = some ⟨bb, off, none⟩ ∧ bb < w.heap.size ∧ w.cell? ⟨bb, off + i, none⟩ = some (.int .i64 (z i))

theorem inv_start (m : Int) (w0 w1 : World) (a b : ByteArray) (hb : Below w0.heap.size w0 w1) :
    Inv w0 w1.heap.size (w1.heap.size + 1 + 1 + 1 + 1 + 1 + 1 + 1 + 1 + 1) (w1.heap.size + 2) (w1.heap.size + 3) (w1.heap.size + 6) (newW m w1).heap.size a b 0 false ((newW m w1).alloc (.cells #[.string a, .string b] 37)) where
  below := (hb.trans ((newW_below' m w1).mono hb.size)).alloc (Nat.le_trans hb.size (newW_below' m w1).size) _
  wn := hb.size
  eng := (eng_new m w1).below ((Below.refl _ _).alloc (Nat.le_refl _) _)
  p0 := by rw [World.cell?_alloc_new]; rfl
  p1 := by rw [World.cell?_alloc_new]; rfl
  lP := by rw [World.size_alloc]; omega
  dP := by rw [newW_size]; omega
  r1 := by omega
  r2 := by omega

set_option maxRecDepth 100000 in
set_option maxHeartbeats 2000000 in
theorem law5 (F : Interp) (w : World) (hF : F.answers w.tape) (x : Option Addr) (len cap : Nat) (z : Nat → Int) (a b : ByteArray) (hnum : Nums w x len z) (hlen : len ≤ 9223372036854775807) (ha : a.size ≤ maxLen) (hb : b.size ≤ maxLen) (ha' : a.size ≤ 9223372036854775807) (hb' : b.size ≤ 9223372036854775807) :
    Calls Tryf.prog 5 #[.slice x len cap, .string a, .string b] w (Yes5 w) := by
  have Hg := hide (guard15 x len cap a b w hlen ha' hb')
  have Hnum := hide hnum
  have HF := hide hF
  clear hnum hF
  go_enter Tryf.func5, Tryf.ntmps5
  go_wp2_with (go_at_call 15; refine Hg.out.mono ?_)
  rintro e w0 ⟨g, rfl, rfl⟩
  clear Hg
  cases g
  · go_wp2
    go_ret
    exact ⟨rfl, Below.refl _ _⟩
  · go_wp2_with (go_at_call 8; refine (config8 1 _).mono ?_)
    all_goals try (go_ret; exact ⟨rfl, Below.refl _ _⟩)
    rintro e w1 ⟨rfl, hb1⟩
    have Hb1 := hide hb1
    clear hb1
    go_wp2_with (go_at_call 7; refine (new7_1 _).mono ?_; rintro e w' ⟨rfl, rfl⟩)
    have Hi := hide (inv_start 1 w0 w1 a b Hb1.out)
    generalize w1.heap.size + 1 + 1 + 1 + 1 + 1 + 1 + 1 + 1 + 1 = E at Hi ⊢
    generalize (newW 1 w1).heap.size = P at Hi ⊢
    generalize w1.heap.size + 2 = Q at Hi
    generalize w1.heap.size + 3 = B at Hi
    generalize w1.heap.size + 6 = C at Hi
    generalize w1.heap.size = n at Hi
    go_loopw [10, 11, 12] (fun t10 t11 t12 wr => ∃ (clock : Int) (c : Bool) (i : Nat), t10 = .int .i64 clock ∧ t11 = .bool c ∧ t12 = .int .i64 i ∧ i ≤ len ∧ Inv w0 n E Q B C P a b clock c wr)
      (fun _ _ t12 _ => len - (intOf t12).toNat)
    case atStart => exact ⟨0, false, 0, rfl, rfl, rfl, by omega, Hi.out⟩
    case round =>
      obtain ⟨clock, c, i, rfl, rfl, rfl, hi, hin⟩ := hrel
      clear Hi Hb1
      by_cases hil : i < len
      · obtain ⟨⟨hz1, hz2⟩, bb, off, rfl, hbb, hc⟩ := Hnum.out i hil
        have hci := (hin.below.cell (p := ⟨bb, off + i, none⟩) hbb).trans hc
        generalize z i = zi at hz1 hz2 hc hci
        have hp0 := hin.p0
        have hp1 := hin.p1
        have Hin := hide hin
        clear hc hin
        by_cases hok : clock ≤ zi
        · have Hbz := hide (busy10_ok a b ha hb c Hin.out.eng zi hok)
          go_wp2_with (go_at_call 10; refine Hbz.out.mono ?_)
          rintro e w2 ⟨rfl, hfr, he⟩
          have hin1 := Hin.out.fr hfr he hz1 hz2
          have Hn := hide (now11 hin1.eng)
          have Hy := hide (busy12 a b ha hb true hin1.eng)
          have hq0 := hin1.p0
          have hq1 := hin1.p1
          have Hin1 := hide hin1
          clear hfr he hin1 Hbz Hin hp0 hp1 hci
          go_wp2_with (first
            | (go_at_call 11; refine Hn.out.mono ?_; rintro e w' ⟨rfl, rfl⟩)
            | (go_at_call 12; refine Hy.out.mono ?_; rintro e w3 ⟨rfl, hbl⟩; have Hbl := hide hbl; clear hbl))
          go_roundw
          case rel => exact ⟨zi, true, i + 1, rfl, rfl, by go_num, by omega, Hin1.out.bel Hbl.out⟩
          case measure => simp [intOf]; omega
        · have Hbz := hide (busy10_late F (w := wr) (by rw [Hin.out.below.tape]; exact HF.out) a b Hin.out.eng zi (by omega) hz1 hz2 Hin.out.r1 Hin.out.r2)
          go_wp2_with (go_at_call 10; refine Hbz.out.mono ?_)
          rintro e w2 ⟨ty, ad, rfl, hbel⟩
          have hin1 := Hin.out.bel hbel
          have Hn := hide (now11 hin1.eng)
          have Hy := hide (busy12 a b ha hb c hin1.eng)
          have hq0 := hin1.p0
          have hq1 := hin1.p1
          have Hin1 := hide hin1
          clear hbel hin1 Hbz Hin hp0 hp1 hci
          go_wp2_with (first
            | (go_at_call 11; refine Hn.out.mono ?_; rintro e w' ⟨rfl, rfl⟩)
            | (go_at_call 12; refine Hy.out.mono ?_; rintro e w3 ⟨rfl, hbl⟩; have Hbl := hide hbl; clear hbl))
          go_roundw
          case rel => exact ⟨clock, c, i + 1, rfl, rfl, by go_num, by omega, Hin1.out.bel Hbl.out⟩
          case measure => simp [intOf]; omega
      · have Hin := hide hin
        clear hin
        go_wp2
        go_ret
        exact ⟨rfl, Hin.out.below⟩
end Go.Proofs.Qxb6615891aFmt
