/-
  The law on two events (function 4): its walk.
-/
import Derived.Test.Qxb6615891aFmtClock
namespace Go.Proofs.Qxb6615891aFmt
open Go.RowKit Go.Extern.Stop Go.Stop Go.Extern

/-- What the law knows between two calls: the engine, the party p in block P, the party q in block R. -/
structure Inv2 (w : World) (n E Q B C P R : Nat) (a b c d : ByteArray) (clock : Int) (k1 k2 : Bool) (wr : World) : Prop where
  below : Below w.heap.size w wr
  wn : w.heap.size ≤ n
  eng : Eng n E Q B C clock (mo a b k1) (mo c d k2) wr
  p0 : wr.cell? ⟨P, 0, none⟩ = some (.string a)
  p1 : wr.cell? ⟨P, 1, none⟩ = some (.string b)
  q0 : wr.cell? ⟨R, 0, none⟩ = some (.string c)
  q1 : wr.cell? ⟨R, 1, none⟩ = some (.string d)
  lP : P < wr.heap.size
  lR : R < wr.heap.size
  dP : P ≠ E ∧ P ≠ B ∧ P ≠ C
  dR : R ≠ E ∧ R ≠ B ∧ R ≠ C
  r1 : -9223372036854775808 ≤ clock
  r2 : clock ≤ 9223372036854775807

variable {w wr w' : World} {n E Q B C P R : Nat} {a b c d : ByteArray} {clock : Int} {k1 k2 : Bool}

theorem Inv2.fr (h : Inv2 w n E Q B C P R a b c d clock k1 k2 wr) (f : Fr E B C wr w') {clock' : Int} {k1' k2' : Bool} (he : Eng n E Q B C clock' (mo a b k1') (mo c d k2') w') (h1 : -9223372036854775808 ≤ clock') (h2 : clock' ≤ 9223372036854775807) : Inv2 w n E Q B C P R a b c d clock' k1' k2' w' where
  below := h.below.trans (f.below h.below.size (Nat.le_trans h.wn h.eng.nE) (Nat.le_trans h.wn h.eng.nB) (Nat.le_trans h.wn h.eng.nC))
  wn := h.wn
  eng := he
  p0 := (f.cell (p := ⟨P, 0, none⟩) h.lP h.dP.1 h.dP.2.1 h.dP.2.2).trans h.p0
  p1 := (f.cell (p := ⟨P, 1, none⟩) h.lP h.dP.1 h.dP.2.1 h.dP.2.2).trans h.p1
  q0 := (f.cell (p := ⟨R, 0, none⟩) h.lR h.dR.1 h.dR.2.1 h.dR.2.2).trans h.q0
  q1 := (f.cell (p := ⟨R, 1, none⟩) h.lR h.dR.1 h.dR.2.1 h.dR.2.2).trans h.q1
  lP := Nat.lt_of_lt_of_le h.lP f.size
  lR := Nat.lt_of_lt_of_le h.lR f.size
  dP := h.dP
  dR := h.dR
  r1 := h1
  r2 := h2

theorem Inv2.bel (h : Inv2 w n E Q B C P R a b c d clock k1 k2 wr) (f : Below wr.heap.size wr w') : Inv2 w n E Q B C P R a b c d clock k1 k2 w' := h.fr (Fr.of_below f) (h.eng.below f) h.r1 h.r2

/-- The world behind New and the two parties. -/
def made2 (w1 : World) (a b c d : ByteArray) : World := ((newW 0 w1).alloc (.cells #[.string a, .string b] 37)).alloc (.cells #[.string c, .string d] 37)

theorem inv2_start (w0 w1 : World) (a b c d : ByteArray) (hb : Below w0.heap.size w0 w1) :
    Inv2 w0 w1.heap.size (w1.heap.size + 1 + 1 + 1 + 1 + 1 + 1 + 1 + 1 + 1) (w1.heap.size + 2) (w1.heap.size + 3) (w1.heap.size + 6) (newW 0 w1).heap.size ((newW 0 w1).heap.size + 1) a b c d 0 false false (made2 w1 a b c d) where
  below := ((hb.trans ((newW_below' 0 w1).mono hb.size)).alloc (Nat.le_trans hb.size (newW_below' 0 w1).size) _).alloc (by rw [World.size_alloc]; exact Nat.le_succ_of_le (Nat.le_trans hb.size (newW_below' 0 w1).size)) _
  wn := hb.size
  eng := (eng_new 0 w1).below (((Below.refl _ _).alloc (Nat.le_refl _) _).alloc (by simp) _)
  p0 := by unfold made2; go_simp
  p1 := by unfold made2; go_simp
  q0 := by unfold made2; go_simp
  q1 := by unfold made2; go_simp
  lP := by unfold made2; rw [World.size_alloc, World.size_alloc]; omega
  lR := by unfold made2; rw [World.size_alloc, World.size_alloc]; omega
  dP := by rw [newW_size]; omega
  dR := by rw [newW_size]; omega
  r1 := by omega
  r2 := by omega

set_option maxHeartbeats 1000000 in
theorem guard9 (t1 t2 : Int) (a b c d : ByteArray) (w : World) (h1 : a.size ≤ 9223372036854775807) (h2 : b.size ≤ 9223372036854775807) (h3 : c.size ≤ 9223372036854775807) (h4 : d.size ≤ 9223372036854775807) :
    Calls Tryf.prog 9 #[.int .i64 t1, .int .i64 t2, .string a, .string b, .string c, .string d] w (Asked w) := by
  go_enter Tryf.func9, Tryf.ntmps9
  go_wp2
  all_goals (go_ret; exact ⟨_, rfl, rfl⟩)

set_option maxRecDepth 100000 in
set_option maxHeartbeats 4000000 in
theorem law4 (F : Interp) (w : World) (hF : F.answers w.tape) (t1 t2 : Int) (a b c d : ByteArray) (hx1 : -9223372036854775808 ≤ t1) (hx2 : t1 ≤ 9223372036854775807) (hx3 : -9223372036854775808 ≤ t2) (hx4 : t2 ≤ 9223372036854775807)
    (ha : a.size ≤ maxLen) (hb : b.size ≤ maxLen) (hc : c.size ≤ maxLen) (hd : d.size ≤ maxLen) (ha' : a.size ≤ 9223372036854775807) (hb' : b.size ≤ 9223372036854775807) (hc' : c.size ≤ 9223372036854775807) (hd' : d.size ≤ 9223372036854775807) :
    Calls Tryf.prog 4 #[.int .i64 t1, .int .i64 t2, .string a, .string b, .string c, .string d] w (Yes5 w) := by
  have Hg := hide (guard9 t1 t2 a b c d w ha' hb' hc' hd')
  have HF := hide hF
  clear hF
  go_enter Tryf.func4, Tryf.ntmps4
  go_wp2_with (go_at_call 9; refine Hg.out.mono ?_)
  rintro e w0 ⟨g, rfl, rfl⟩
  clear Hg
  cases g
  · go_wp2
    go_ret
    exact ⟨rfl, Below.refl _ _⟩
  · go_wp2_with (go_at_call 8; refine (config8 0 _).mono ?_)
    all_goals try (go_ret; exact ⟨rfl, Below.refl _ _⟩)
    rintro e w1 ⟨rfl, hb1⟩
    have Hi := hide (inv2_start w0 w1 a b c d hb1)
    clear hb1
    by_cases h1 : 0 ≤ t1
    · have Hbz := hide (busy10_ok a b ha hb false Hi.out.eng t1 h1)
      unfold made2 at Hbz
      go_wp2_with (first
        | (go_at_call 7; refine (new7_0 _).mono ?_; rintro e w' ⟨rfl, rfl⟩)
        | (go_at_call 10; refine Hbz.out.mono ?_))
      rintro e w2 ⟨rfl, hfr, he⟩
      have hi1 := Hi.out.fr hfr he hx1 hx2
      clear hfr he Hi Hbz
      have Hn := hide (now11 hi1.eng)
      have Hy := hide (busy12 a b ha hb true hi1.eng)
      have s0 := hi1.p0
      have s1 := hi1.p1
      have Hi1 := hide hi1
      clear hi1
      go_wp2_with (first
        | (go_at_call 11; refine Hn.out.mono ?_; rintro e w' ⟨rfl, rfl⟩)
        | (go_at_call 12; refine Hy.out.mono ?_))
      rintro e w3 ⟨rfl, hbl⟩
      have hi2 := Hi1.out.bel hbl
      have o0 := hi2.q0
      have o1 := hi2.q1
      have Hi2 := hide hi2
      clear hbl hi2 Hi1 s0 s1 Hn Hy
      by_cases h2 : t1 ≤ t2
      · have Hs := hide (subs13_ok c d hc hd false Hi2.out.eng t2 h2)
        go_wp2_with (go_at_call 13; refine Hs.out.mono ?_)
        rintro e w4 ⟨rfl, hfr, he⟩
        have hi3 := Hi2.out.fr hfr he hx3 hx4
        clear hfr he Hs Hi2
        have Hn := hide (now11 hi3.eng)
        have Hy := hide (cw14 c d hc hd true hi3.eng)
        have u0 := hi3.q0
        have u1 := hi3.q1
        have Hi3 := hide hi3
        clear hi3
        go_wp2_with (first
          | (go_at_call 11; refine Hn.out.mono ?_; rintro e w' ⟨rfl, rfl⟩)
          | (go_at_call 14; refine Hy.out.mono ?_))
        rintro e w5 ⟨rfl, hbl⟩
        have hi4 := Hi3.out.bel hbl
        have Hz := hide (busy12 a b ha hb true hi4.eng)
        have v0 := hi4.p0
        have v1 := hi4.p1
        have Hi4 := hide hi4
        clear hbl hi4 Hi3 u0 u1 Hn Hy
        go_wp2_with (go_at_call 12; refine Hz.out.mono ?_; rintro e w6 ⟨rfl, hbl⟩; have Hbl := hide hbl; clear hbl)
        go_ret
        exact ⟨rfl, (Hi4.out.bel Hbl.out).below⟩
      · have Hs := hide (subs13_late F (w := w3) (by rw [Hi2.out.below.tape]; exact HF.out) c d Hi2.out.eng t2 (by omega) hx3 hx4 Hi2.out.r1 Hi2.out.r2)
        go_wp2_with (go_at_call 13; refine Hs.out.mono ?_)
        rintro e w4 ⟨ty4, ad4, rfl, hbel⟩
        have hi3 := Hi2.out.bel hbel
        clear hbel Hs Hi2
        have Hn := hide (now11 hi3.eng)
        have Hy := hide (cw14 c d hc hd false hi3.eng)
        have u0 := hi3.q0
        have u1 := hi3.q1
        have Hi3 := hide hi3
        clear hi3
        go_wp2_with (first
          | (go_at_call 11; refine Hn.out.mono ?_; rintro e w' ⟨rfl, rfl⟩)
          | (go_at_call 14; refine Hy.out.mono ?_))
        rintro e w5 ⟨rfl, hbl⟩
        have hi4 := Hi3.out.bel hbl
        have Hz := hide (busy12 a b ha hb true hi4.eng)
        have v0 := hi4.p0
        have v1 := hi4.p1
        have Hi4 := hide hi4
        clear hbl hi4 Hi3 u0 u1 Hn Hy
        go_wp2_with (go_at_call 12; refine Hz.out.mono ?_; rintro e w6 ⟨rfl, hbl⟩; have Hbl := hide hbl; clear hbl)
        go_ret
        exact ⟨rfl, (Hi4.out.bel Hbl.out).below⟩
    · have Hbz := hide (busy10_late F (w := made2 w1 a b c d) (by rw [Hi.out.below.tape]; exact HF.out) a b Hi.out.eng t1 (by omega) hx1 hx2 Hi.out.r1 Hi.out.r2)
      unfold made2 at Hbz
      go_wp2_with (first
        | (go_at_call 7; refine (new7_0 _).mono ?_; rintro e w' ⟨rfl, rfl⟩)
        | (go_at_call 10; refine Hbz.out.mono ?_))
      rintro e w2 ⟨ty2, ad2, rfl, hbel⟩
      have hi1 := Hi.out.bel hbel
      clear hbel Hi Hbz
      have Hn := hide (now11 hi1.eng)
      have Hy := hide (busy12 a b ha hb false hi1.eng)
      have s0 := hi1.p0
      have s1 := hi1.p1
      have Hi1 := hide hi1
      clear hi1
      go_wp2_with (first
        | (go_at_call 11; refine Hn.out.mono ?_; rintro e w' ⟨rfl, rfl⟩)
        | (go_at_call 12; refine Hy.out.mono ?_))
      rintro e w3 ⟨rfl, hbl⟩
      have hi2 := Hi1.out.bel hbl
      have o0 := hi2.q0
      have o1 := hi2.q1
      have Hi2 := hide hi2
      clear hbl hi2 Hi1 s0 s1 Hn Hy
      by_cases h2 : 0 ≤ t2
      · have Hs := hide (subs13_ok c d hc hd false Hi2.out.eng t2 h2)
        go_wp2_with (go_at_call 13; refine Hs.out.mono ?_)
        rintro e w4 ⟨rfl, hfr, he⟩
        have hi3 := Hi2.out.fr hfr he hx3 hx4
        clear hfr he Hs Hi2
        have Hn := hide (now11 hi3.eng)
        have Hy := hide (cw14 c d hc hd true hi3.eng)
        have u0 := hi3.q0
        have u1 := hi3.q1
        have Hi3 := hide hi3
        clear hi3
        go_wp2_with (first
          | (go_at_call 11; refine Hn.out.mono ?_; rintro e w' ⟨rfl, rfl⟩)
          | (go_at_call 14; refine Hy.out.mono ?_))
        rintro e w5 ⟨rfl, hbl⟩
        have hi4 := Hi3.out.bel hbl
        have Hz := hide (busy12 a b ha hb false hi4.eng)
        have v0 := hi4.p0
        have v1 := hi4.p1
        have Hi4 := hide hi4
        clear hbl hi4 Hi3 u0 u1 Hn Hy
        go_wp2_with (go_at_call 12; refine Hz.out.mono ?_; rintro e w6 ⟨rfl, hbl⟩; have Hbl := hide hbl; clear hbl)
        go_ret
        exact ⟨rfl, (Hi4.out.bel Hbl.out).below⟩
      · have Hs := hide (subs13_late F (w := w3) (by rw [Hi2.out.below.tape]; exact HF.out) c d Hi2.out.eng t2 (by omega) hx3 hx4 Hi2.out.r1 Hi2.out.r2)
        go_wp2_with (go_at_call 13; refine Hs.out.mono ?_)
        rintro e w4 ⟨ty4, ad4, rfl, hbel⟩
        have hi3 := Hi2.out.bel hbel
        clear hbel Hs Hi2
        have Hn := hide (now11 hi3.eng)
        have Hy := hide (cw14 c d hc hd false hi3.eng)
        have u0 := hi3.q0
        have u1 := hi3.q1
        have Hi3 := hide hi3
        clear hi3
        go_wp2_with (first
          | (go_at_call 11; refine Hn.out.mono ?_; rintro e w' ⟨rfl, rfl⟩)
          | (go_at_call 14; refine Hy.out.mono ?_))
        rintro e w5 ⟨rfl, hbl⟩
        have hi4 := Hi3.out.bel hbl
        have Hz := hide (busy12 a b ha hb false hi4.eng)
        have v0 := hi4.p0
        have v1 := hi4.p1
        have Hi4 := hide hi4
        clear hbl hi4 Hi3 u0 u1 Hn Hy
        go_wp2_with (go_at_call 12; refine Hz.out.mono ?_; rintro e w6 ⟨rfl, hbl⟩; have Hbl := hide hbl; clear hbl)
        go_ret
        exact ⟨rfl, (Hi4.out.bel Hbl.out).below⟩
end Go.Proofs.Qxb6615891aFmt
