/-
  The law 'FnSplitRowsGivesEachGroupItsRows' (function 3): its copies, and the values that it reads off them.
-/
import Derived.Test.Qxb6615609aFmtLaw3L
import Derived.Deep.DeepCutAuto
import Derived.Deep.RegionHeld3
namespace Go.Proofs.Qxb6615609aFmt
open Go.RowKit

set_option maxRecDepth 100000 in
set_option maxHeartbeats 16000000 in
/-- .. where there are more byte strings than widths, or fewer. -/
theorem partB_len (w0 : World) (db nm : ByteArray) (nw : Nat) (wd : Nat → Int) (rows : Nat) (ad : Option Addr) (nd cd : Nat) (da : Nat → Option Addr) (dn dc : Nat → Nat) (L : Nat → List UInt8) (ag : Option Addr) (ng cg : Nat) (ga : Nat → Option Addr) (gn gc : Nat → Nat) (z : Nat → Nat → Int)
    (HC : Hid (PartC w0 db nm nw wd rows ad nd cd da dn dc L ag ng cg ga gn gc z)) (hne : nd ≠ nw) : PartB w0 db nm nw wd rows ad nd cd da dn dc L ag ng cg ga gn gc z := by
  intro w aw cw H Hb hdb hnm hnw hnd hng hrows K c12 c13 c14 c15 c16 c17 c18 c19 c42 c43 c44 c45 c46 c47 c48 c49 c50 c51 c52 c53 c54 c55 c56 c57 c58 c59 c60 c61 c62 c63 c64 c65 c66 c67 c68 c69 c70 c71 c72 c73 c74 c75 c76 c77 c78 c79 c80 c81 c82 c83 c84 c85 c86 c87 c88 c89 c90 c91 c92 c93 c94 c95 c96 c97 c98 c99 c100 c101 c102 c103 c104 c105 c106 c107 c108 c109 c110 c111 c112 c113 c114 c115 c116 c117 c118 c119 c120 c121 c122 c123 c124 c125 c126 c127 c128 c129 c130 c131 c132 c133 c134 c135 c136 c137 c138 c139 c140 c141 c142 c143 c144 c145 c146 c147 c148 c149 c150 c151 c152 c153 c154 c155 c156 c157 c158 c159 c160 c161 c162 c163 c164 c165 c166 c167 c168 c169 c170 c171 c172 c173 c174 c175 c176 c177 c178 c179 c180 c181 c182 c183 c184 c185 c186 c187 c188 c189 c190 c191 c192 c193 c194 c195 c196 c197 c198 c199 c200 c201 c202 c203 c204 c205 c206 c207 c208 c209 c210 c211 c212 c213 c214 c215 hK
  conv => arg 2; whnf
  conv at hK => enter [a, w', 1, 2]; whnf
  have Hc6 := hide (ints6 w.heap.size aw nw cw wd w (by omega) (Nat.le_refl _) H.out.args.widths)
  go_wp2_with fail
  refine Hc6.out.mono ?_
  rintro e w1 ⟨a20, c20, rfl, hc20, hb1, hcell⟩
  have Hw1 := hide (cloned_at hcell)
  have Hb1 := hide hb1
  have H1 := hide (H.out.below hb1)
  clear Hc6 hc20 hcell hb1
  have Hc7 := hide (rows7 w1.heap.size ad nd cd da dc L w1 (by omega) (Nat.le_refl _) (H1.out.args.data.congr (fun s hs => by rw [(H1.out.args.dsize s hs).1])) (fun s hs => by rw [← (H1.out.args.dsize s hs).1]; exact ⟨H1.out.dle s hs, H1.out.args.bytes s hs⟩))
  go_wp2_with fail
  refine Hc7.out.mono ?_
  rintro e w2 ⟨a21, c21, rfl, hc21, hb2, hrow⟩
  obtain ⟨ma, mc, hma, hmb⟩ := cloned_rows_at (dn := dn) (fun s hs => (H1.out.args.dsize s hs).1) hrow
  have Hw2 := hide (Hw1.out.up hb2)
  have H2 := hide (H1.out.below hb2)
  have Hma := hide hma
  have Hmb := hide hmb
  have HB2 := hide (Hb.out.trans ((Hb1.out.mono Hb.out.size).trans (hb2.mono (Nat.le_trans Hb.out.size Hb1.out.size))))
  clear Hc7 hc21 hrow hma hmb hb2 H1 Hb1 Hw1 H Hb
  obtain ⟨C, hC, hmk⟩ := mk29 nd (by omega)
  have hne' : ((nd : Int) != (nw : Int)) = true := by simp; omega
  have hb3 : Below w2.heap.size w2 (w2.alloc (.cells C 23)) := (Below.refl _ _).alloc (Nat.le_refl _) _
  have Hv : Hid (Vals (w2.alloc (.cells C 23)) a20 a21 (some ⟨w2.heap.size, 0, none⟩) nw nd rows wd dn L ma mc (fun _ => none) (fun _ => 0) (fun _ => []) 0 true) :=
    hide ⟨Hw2.out.up hb3, Hma.out.up hb3, fun s hs => ⟨(Hmb.out s hs).1.up hb3, (Hmb.out s hs).2⟩, by omega, fun i hi => by omega, fun i hi => by omega, fun i hi => by omega, fun _ => .inl hne, fun h => by cases h⟩
  have Hf := hide (H2.out.below hb3)
  have Hbb := hide (HB2.out.trans (hb3.mono HB2.out.size))
  clear hb3 hne
  go_upto_region 74 with fail
  refine HC.out _ aw cw a20 c20 a21 c21 (some ⟨w2.heap.size, 0, none⟩) nd ma mc (fun _ => none) (fun _ => 0) (fun _ => []) 0 true Hf.out Hv.out Hbb.out hdb hnm hnw hnd hng hrows _ _ _ _ _ _ _ _ _ _ _ _ _ _ _ _ _ _ _ _ _ _ _ _ _ _ _ _ _ _ _ _ _ _ _ _ _ _ _ _ _ _ _ _ _ _ _ _ _ _ _ _ _ _ _ _ _ _ _ _ _ _ _ _ _ _ _ _ _ _ _ _ _ _ _ _ _ _ _ _ _ _ _ _ _ _ _ _ _ _ _ _ _ _ _ _ _ _ _ _ _ _ _ _ _ _ _ _ _ _ _ _ _ _ _ _ _ _ _ _ _ _ _ _ _ _ _ _ _ _ _ _ _ _ _ _ _ _ _ _ _ _ _ _ _ _ _ _ _ _ _ _ _ _ _ _ _ _ _ _ _ _ _ _ _ _ _ _ _ _ _ _ _ _ _ _ _ _ _ _ _ _ _ _ _ _ _ _ _ _ _ _ _ _ _ _ _ _ _ _ _ _ _ _ _ _ _ _ _ _ _ _ _ _ _ _ _ _ _ _ _ _ _ _ _ _ _ ?_
  assumption

set_option maxRecDepth 100000 in
set_option maxHeartbeats 16000000 in
/-- .. where there are as many. -/
theorem partB_eq (w0 : World) (db nm : ByteArray) (wd : Nat → Int) (rows : Nat) (ad : Option Addr) (nd cd : Nat) (da : Nat → Option Addr) (dn dc : Nat → Nat) (L : Nat → List UInt8) (ag : Option Addr) (ng cg : Nat) (ga : Nat → Option Addr) (gn gc : Nat → Nat) (z : Nat → Nat → Int)
    (HC : Hid (PartC w0 db nm nd wd rows ad nd cd da dn dc L ag ng cg ga gn gc z)) : PartB w0 db nm nd wd rows ad nd cd da dn dc L ag ng cg ga gn gc z := by
  obtain ⟨stop, E, hstop, hE, hno⟩ := first_stop (fun s => valEnds (L s) rows (wd s)) nd
  have HE := hide hE
  have Hno := hide hno
  clear hE hno
  intro w aw cw H Hb hdb hnm hnw hnd hng hrows K c12 c13 c14 c15 c16 c17 c18 c19 c42 c43 c44 c45 c46 c47 c48 c49 c50 c51 c52 c53 c54 c55 c56 c57 c58 c59 c60 c61 c62 c63 c64 c65 c66 c67 c68 c69 c70 c71 c72 c73 c74 c75 c76 c77 c78 c79 c80 c81 c82 c83 c84 c85 c86 c87 c88 c89 c90 c91 c92 c93 c94 c95 c96 c97 c98 c99 c100 c101 c102 c103 c104 c105 c106 c107 c108 c109 c110 c111 c112 c113 c114 c115 c116 c117 c118 c119 c120 c121 c122 c123 c124 c125 c126 c127 c128 c129 c130 c131 c132 c133 c134 c135 c136 c137 c138 c139 c140 c141 c142 c143 c144 c145 c146 c147 c148 c149 c150 c151 c152 c153 c154 c155 c156 c157 c158 c159 c160 c161 c162 c163 c164 c165 c166 c167 c168 c169 c170 c171 c172 c173 c174 c175 c176 c177 c178 c179 c180 c181 c182 c183 c184 c185 c186 c187 c188 c189 c190 c191 c192 c193 c194 c195 c196 c197 c198 c199 c200 c201 c202 c203 c204 c205 c206 c207 c208 c209 c210 c211 c212 c213 c214 c215 hK
  conv => arg 2; whnf
  conv at hK => enter [a, w', 1, 2]; whnf
  have Hc6 := hide (ints6 w.heap.size aw nd cw wd w (by omega) (Nat.le_refl _) H.out.args.widths)
  go_wp2_with fail
  refine Hc6.out.mono ?_
  rintro e w1 ⟨a20, c20, rfl, hc20, hb1, hcell⟩
  have Hw1 := hide (cloned_at hcell)
  have Hb1 := hide hb1
  have H1 := hide (H.out.below hb1)
  clear Hc6 hc20 hcell hb1
  have Hc7 := hide (rows7 w1.heap.size ad nd cd da dc L w1 (by omega) (Nat.le_refl _) (H1.out.args.data.congr (fun s hs => by rw [(H1.out.args.dsize s hs).1])) (fun s hs => by rw [← (H1.out.args.dsize s hs).1]; exact ⟨H1.out.dle s hs, H1.out.args.bytes s hs⟩))
  go_wp2_with fail
  refine Hc7.out.mono ?_
  rintro e w2 ⟨a21, c21, rfl, hc21, hb2, hrow⟩
  obtain ⟨ma, mc, hma, hmb⟩ := cloned_rows_at (dn := dn) (fun s hs => (H1.out.args.dsize s hs).1) hrow
  have Hw2 := hide (Hw1.out.up hb2)
  have H2 := hide (H1.out.below hb2)
  have Hma := hide hma
  have Hmb := hide hmb
  have HB2 := hide (Hb.out.trans ((Hb1.out.mono Hb.out.size).trans (hb2.mono (Nat.le_trans Hb.out.size Hb1.out.size))))
  clear Hc7 hc21 hrow hma hmb hb2 H1 Hb1 Hw1 H Hb
  obtain ⟨C, hC, hmk⟩ := mk29 nd (by omega)
  have hne' : ((nd : Int) != (nd : Int)) = false := by simp
  have H0 := hide (RowTo.start w2 (ValRow w2.heap.size rows (fun s => pvA (ma s) (mc s) (E s))) nd C 23 hC)
  clear hC hnw
  go_wp2_with fail
  go_loopw [22, 24, 25] (fun t22 t24 t25 wr => ∃ k : Nat, k ≤ stop ∧ t22 = .bool false ∧ t24 = .int .i64 k ∧ t25 = .int .i64 k ∧ RowTo w2 wr w2.heap.size (ValRow w2.heap.size rows (fun s => pvA (ma s) (mc s) (E s))) nd k) (fun _ _ t _ => nd - (intOf t).toNat)
  case atStart => exact ⟨0, by omega, rfl, rfl, rfl, H0.out⟩
  case round =>
    clear H0 hmk
    obtain ⟨k, hk, rfl, rfl, rfl, hr⟩ := hrel
    by_cases hlt : k < nd
    · have hmk := Hma.out.below hr.below
      obtain ⟨bm, offm, ham, hbm, hcm⟩ := hmk.addr (by omega)
      have hwk := Hw2.out.below hr.below
      obtain ⟨bw, offw, haw, hbw, hcw⟩ := hwk.addr (by omega)
      subst ham
      subst haw
      have hcm1 := hcm k hlt
      have hcw1 := hcw k hlt
      have hlen := (H2.out.args.dsize k hlt).1
      have hdle := H2.out.dle k hlt
      have hwok := H2.out.wok k hlt
      have hby := (Hmb.out k hlt).1.below hr.below
      have hmc := (Hmb.out k hlt).2
      have hsz := Nat.le_of_lt hr.lt
      have hbm' : (⟨bm, offm + k, none⟩ : Addr).block < wr.heap.size := by show bm < _; omega
      have hbw' : (⟨bw, offw + k, none⟩ : Addr).block < wr.heap.size := by show bw < _; omega
      have Hr := hide hr
      clear hmk hcm hwk hcw
      by_cases hks : k < stop
      · have Hc := hide (vals8_at w2.heap.size (ma k) (dn k) (mc k) rows (wd k) (L k) (E k) wr hlen.symm (by omega) hmc (by omega) hwok hsz hby (HE.out k hks))
        clear hr hby hlen
        go_wp2_with fail
        go_region_held3 (fun w' => w'.cell? ⟨bm, offm + k, none⟩ = some (.slice (ma k) (dn k) (mc k)) ∧ w'.cell? ⟨bw, offw + k, none⟩ = some (.int .i64 (wd k))) (go_keep)
          (first | (go_at_call 8; refine (Hc.out _ rfl).mono ?_; rintro e w3 ⟨a3, c3, rfl, hb3, hcell⟩; have hS1 := (hb3.cell hbm').trans hcm1; have hS2 := (hb3.cell hbw').trans hcw1; have Hb3 := hide hb3; have Hcell := hide hcell; clear hb3 hcell))
        have hr3 := Hr.out.grow Hb3.out (fun j u _ h => h.below Hb3.out)
        obtain ⟨v0, hv0⟩ := hr3.there k hlt
        have hf := hr3.open_ k hlt
        have hS : ValRow w2.heap.size rows (fun s => pvA (ma s) (mc s) (E s)) w3 k (.slice a3 rows c3) := ⟨a3, c3, rfl, fun i hi => by
          obtain ⟨b, q1, q2, q3, q4⟩ := Hcell.out i hi
          exact ⟨b, q1, Nat.lt_of_lt_of_le Hr.out.lt q2, q3, q4⟩⟩
        have Hs := hide (hr3.step hlt (.slice a3 rows c3) (fun j u _ h => h.set _) (hS.set _))
        clear hr3 hS Hr Hb3 Hcell Hc
        go_wp2
        go_roundw
        case rel => exact ⟨k + 1, by omega, rfl, by go_num, by go_num, Hs.out⟩
        case measure => simp [intOf]; omega
      · obtain rfl : stop = k := by omega
        have Hc := hide (vals8_bad_at w2.heap.size (ma stop) (dn stop) (mc stop) rows (wd stop) (L stop) wr hlen.symm (by omega) hmc (by omega) hwok hsz hby (Hno.out hlt))
        clear hr hby hlen
        go_wp2_with fail
        go_region_held3 (fun w' => w'.cell? ⟨bm, offm + stop, none⟩ = some (.slice (ma stop) (dn stop) (mc stop)) ∧ w'.cell? ⟨bw, offw + stop, none⟩ = some (.int .i64 (wd stop))) (go_keep)
          (first | (go_at_call 8; refine (Hc.out _ rfl).mono ?_; rintro e w3 ⟨rfl, hb3⟩; have hS1 := (hb3.cell hbm').trans hcm1; have hS2 := (hb3.cell hbw').trans hcw1; have Hb3 := hide hb3; clear hb3))
        go_upto_region 74 with fail
        have hr3 := Hr.out.grow Hb3.out (fun j u _ h => h.below Hb3.out)
        obtain ⟨va, vc, hva, hvb⟩ := valrows_at hr3
        have hb4 : Below w2.heap.size w2 w3 := hr3.below
        refine HC.out w3 aw cw _ c20 _ c21 (some ⟨w2.heap.size, 0, none⟩) nd ma mc va vc E stop true (H2.out.below hb4) ⟨Hw2.out.up hb4, Hma.out.up hb4, fun s hs => ⟨(Hmb.out s hs).1.up hb4, (Hmb.out s hs).2⟩, hstop, hva, hvb, HE.out, fun _ => .inr ⟨rfl, hlt, Hno.out hlt⟩, fun h => by cases h⟩ (HB2.out.trans (hb4.mono HB2.out.size)) hdb hnm hnd hnd hng hrows _ _ _ _ _ _ _ _ _ _ _ _ _ _ _ _ _ _ _ _ _ _ _ _ _ _ _ _ _ _ _ _ _ _ _ _ _ _ _ _ _ _ _ _ _ _ _ _ _ _ _ _ _ _ _ _ _ _ _ _ _ _ _ _ _ _ _ _ _ _ _ _ _ _ _ _ _ _ _ _ _ _ _ _ _ _ _ _ _ _ _ _ _ _ _ _ _ _ _ _ _ _ _ _ _ _ _ _ _ _ _ _ _ _ _ _ _ _ _ _ _ _ _ _ _ _ _ _ _ _ _ _ _ _ _ _ _ _ _ _ _ _ _ _ _ _ _ _ _ _ _ _ _ _ _ _ _ _ _ _ _ _ _ _ _ _ _ _ _ _ _ _ _ _ _ _ _ _ _ _ _ _ _ _ _ _ _ _ _ _ _ _ _ _ _ _ _ _ _ _ _ _ _ _ _ _ _ _ _ _ _ _ _ _ _ _ _ _ _ _ _ _ _ _ _ _ _ ?_
        assumption
    · obtain rfl : nd = k := by omega
      obtain rfl : stop = nd := by omega
      have Hr := hide hr
      clear hr
      go_upto_region 74 with fail
      obtain ⟨va, vc, hva, hvb⟩ := valrows_at Hr.out
      have hb4 := Hr.out.below
      refine HC.out wr aw cw _ c20 _ c21 (some ⟨w2.heap.size, 0, none⟩) stop ma mc va vc E stop false (H2.out.below hb4) ⟨Hw2.out.up hb4, Hma.out.up hb4, fun s hs => ⟨(Hmb.out s hs).1.up hb4, (Hmb.out s hs).2⟩, Nat.le_refl _, hva, hvb, HE.out, (fun h => by cases h), fun _ => ⟨rfl, rfl⟩⟩ (HB2.out.trans (hb4.mono HB2.out.size)) hdb hnm hnd hnd hng hrows _ _ _ _ _ _ _ _ _ _ _ _ _ _ _ _ _ _ _ _ _ _ _ _ _ _ _ _ _ _ _ _ _ _ _ _ _ _ _ _ _ _ _ _ _ _ _ _ _ _ _ _ _ _ _ _ _ _ _ _ _ _ _ _ _ _ _ _ _ _ _ _ _ _ _ _ _ _ _ _ _ _ _ _ _ _ _ _ _ _ _ _ _ _ _ _ _ _ _ _ _ _ _ _ _ _ _ _ _ _ _ _ _ _ _ _ _ _ _ _ _ _ _ _ _ _ _ _ _ _ _ _ _ _ _ _ _ _ _ _ _ _ _ _ _ _ _ _ _ _ _ _ _ _ _ _ _ _ _ _ _ _ _ _ _ _ _ _ _ _ _ _ _ _ _ _ _ _ _ _ _ _ _ _ _ _ _ _ _ _ _ _ _ _ _ _ _ _ _ _ _ _ _ _ _ _ _ _ _ _ _ _ _ _ _ _ _ _ _ _ _ _ _ _ _ _ _ ?_
      assumption

/-- The law's copies, and the values. -/
theorem partB (w0 : World) (db nm : ByteArray) (nw : Nat) (wd : Nat → Int) (rows : Nat) (ad : Option Addr) (nd cd : Nat) (da : Nat → Option Addr) (dn dc : Nat → Nat) (L : Nat → List UInt8) (ag : Option Addr) (ng cg : Nat) (ga : Nat → Option Addr) (gn gc : Nat → Nat) (z : Nat → Nat → Int)
    (HC : Hid (PartC w0 db nm nw wd rows ad nd cd da dn dc L ag ng cg ga gn gc z)) : PartB w0 db nm nw wd rows ad nd cd da dn dc L ag ng cg ga gn gc z := by
  by_cases hne : nd = nw
  · subst hne
    exact partB_eq w0 db nm wd rows ad nd cd da dn dc L ag ng cg ga gn gc z HC
  · exact partB_len w0 db nm nw wd rows ad nd cd da dn dc L ag ng cg ga gn gc z HC hne
end Go.Proofs.Qxb6615609aFmt
