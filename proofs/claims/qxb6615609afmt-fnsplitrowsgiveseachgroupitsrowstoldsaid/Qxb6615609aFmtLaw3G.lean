/-
  The law 'FnSplitRowsGivesEachGroupItsRows' (function 3): SplitRows called, where it serves.
-/
import Derived.Test.Qxb6615609aFmtLaw3M
import Derived.Deep.DeepCutAuto
import Derived.Deep.RegionHeld3
import Derived.BigRegion
namespace Go.Proofs.Qxb6615609aFmt
open Go.RowKit Go.Extern.Stop Go.Stop Go.Extern

set_option maxRecDepth 100000 in
set_option maxHeartbeats 16000000 in
/-- .. where SplitRows serves. -/
theorem partD_serves (w0 : World) (db nm : ByteArray) (wd : Nat → Int) (rows : Nat) (ad : Option Addr) (nd cd : Nat) (da : Nat → Option Addr) (dn dc : Nat → Nat) (L : Nat → List UInt8) (ag : Option Addr) (ng cg : Nat) (ga : Nat → Option Addr) (gn gc : Nat → Nat) (z : Nat → Nat → Int) (w : World) (aw : Option Addr) (cw : Nat) (a20 : Option Addr) (c20 : Nat) (a21 : Option Addr) (c21 : Nat) (a23 : Option Addr) (c23 : Nat) (ma : Nat → Option Addr) (mc : Nat → Nat) (va : Nat → Option Addr) (vc : Nat → Nat) (E : Nat → List Nat) (H : Hid (Fit w.heap.size w aw nd wd rows ad nd da dn dc L ag ng ga gn gc z)) (Hv : Hid (Vals w a20 a21 a23 nd nd rows wd dn L ma mc va vc E nd false)) (Hb : Hid (Below w0.heap.size w0 w)) (hnd : nd ≤ 131072) (hng : ng ≤ 131072) (hrows : rows ≤ 65536)
    (K : Act → World → Prop) (c12 c13 c14 c15 c16 c17 c18 c19 c25 c26 c27 c28 c29 c30 c31 c32 c33 c42 c43 c44 c45 c46 c47 c48 c49 c50 c51 c52 c53 c54 c55 c56 c57 c58 c59 c60 c61 c62 c63 c64 c65 c66 c67 c68 c69 c70 c71 c72 c73 c74 c75 c76 c77 c78 c79 c80 c81 c82 c83 c84 c85 c86 c87 c88 c89 c90 c91 c92 c93 c94 c95 c96 c97 c98 c99 c100 c101 c102 c103 c104 c105 c106 c107 c108 c109 c110 c111 c112 c113 c114 c115 c116 c117 c118 c119 c120 c121 c122 c123 c124 c125 c126 c127 c128 c129 c130 c131 c132 c133 c134 c135 c136 c137 c138 c139 c140 c141 c142 c143 c144 c145 c146 c147 c148 c149 c150 c151 c152 c153 c154 c155 c156 c157 c158 c159 c160 c161 c162 c163 c164 c165 c166 c167 c168 c169 c170 c171 c172 c173 c174 c175 c176 c177 c178 c179 c180 c181 c182 c183 c184 c185 c186 c187 c188 c189 c190 c191 c192 c193 c194 c195 c196 c197 c198 c199 c200 c201 c202 c203 c204 c205 c206 c207 c208 c209 c210 c211 c212 c213 c214 c215 c216 c217 c218 c219 c220 c221 c222 c223 c224 c225 c226 c227 c228 c229 c230 c231 c232 c233 c234 c235 c236 c237 c238 c239 c240 c241 c242 c243 c244 c245 c246 c247 c248 c249 c250 c251 c252 c253 c254 c255 c256 c257 c258 c259 c260 c261 c262 c263 c264 c265 c266 c267 c268 c269 c270 c271 c272 c273 c274 c275 c276 c277 c278 c279 c280 c281 c282 c283 c284 c285 c286 c287 c288 c289 c290 c291 c292 c293 c294 c295 c296 c297 c298 c299 c300 c301 c302 c303 c304 c305 c306 c307 c308 c309 c310 c311 : Value) (hK : ∀ a w', Code.wp Tryf.prog (restOf 92 body3) (bodyPost Tryf.prog Tryf.f3 (Held w0)) a w' → K a w') : Code.wp Tryf.prog (stmtOf 92 body3) (Exit.then K (bodyPost Tryf.prog Tryf.f3 (Held w0))) ⟨#[.string db, .string nm, .slice aw nd cw, .int .i64 rows, .slice ad nd cd, .slice ag ng cg, undef, undef, undef, undef, undef, undef, c12, c13, c14, c15, c16, c17, c18, c19, .slice a20 nd c20, .slice a21 nd c21, .bool false, .slice a23 nd c23, .int .i64 nd, c25, c26, c27, c28, c29, c30, c31, c32, c33, undef, undef, undef, undef, undef, undef, undef, undef, c42, c43, c44, c45, c46, c47, c48, c49, c50, c51, c52, c53, c54, c55, c56, c57, c58, c59, c60, c61, c62, c63, c64, c65, c66, c67, c68, c69, c70, c71, c72, c73, c74, c75, c76, c77, c78, c79, c80, c81, c82, c83, c84, c85, c86, c87, c88, c89, c90, c91, c92, c93, c94, c95, c96, c97, c98, c99, c100, c101, c102, c103, c104, c105, c106, c107, c108, c109, c110, c111, c112, c113, c114, c115, c116, c117, c118, c119, c120, c121, c122, c123, c124, c125, c126, c127, c128, c129, c130, c131, c132, c133, c134, c135, c136, c137, c138, c139, c140, c141, c142, c143, c144, c145, c146, c147, c148, c149, c150, c151, c152, c153, c154, c155, c156, c157, c158, c159, c160, c161, c162, c163, c164, c165, c166, c167, c168, c169, c170, c171, c172, c173, c174, c175, c176, c177, c178, c179, c180, c181, c182, c183, c184, c185, c186, c187, c188, c189, c190, c191, c192, c193, c194, c195, c196, c197, c198, c199, c200, c201, c202, c203, c204, c205, c206, c207, c208, c209, c210, c211, c212, c213, c214, c215, c216, c217, c218, c219, c220, c221, c222, c223, c224, c225, c226, c227, c228, c229, c230, c231, c232, c233, c234, c235, c236, c237, c238, c239, c240, c241, c242, c243, c244, c245, c246, c247, c248, c249, c250, c251, c252, c253, c254, c255, c256, c257, c258, c259, c260, c261, c262, c263, c264, c265, c266, c267, c268, c269, c270, c271, c272, c273, c274, c275, c276, c277, c278, c279, c280, c281, c282, c283, c284, c285, c286, c287, c288, c289, c290, c291, c292, c293, c294, c295, c296, c297, c298, c299, c300, c301, c302, c303, c304, c305, c306, c307, c308, c309, c310, c311, undef, undef, undef, undef, undef, undef, undef, undef, undef, undef, undef, undef, undef, undef, undef, undef, undef, undef, undef, undef, undef, undef, undef, undef, undef, undef, undef, undef, undef, undef, undef, undef, undef, undef, undef, undef, undef, undef, undef, undef, undef, undef, undef, undef, undef, undef, undef, undef, undef, undef, undef, undef, undef, undef, undef, undef, undef, undef, undef, undef, undef, undef, undef, undef, undef, undef, undef, undef, undef, undef, undef, undef, undef, undef, undef, undef, undef, undef, undef, undef, undef, undef, undef, undef, undef, undef, undef, undef, undef, undef, undef, undef, undef, undef, undef, undef, undef, undef], []⟩ w := by
  conv => arg 2; whnf
  conv at hK => enter [a, w', 1, 2]; whnf
  go_wp2_with fail
  refine (table9x db nm aw nd cw w).mono ?_
  rintro e wt ⟨rfl, hbt, hst, hc4, hc0, hc1⟩
  have Hbt := hide (Hb.out.trans (hbt.mono Hb.out.size))
  have H1 := hide (H.out.below hbt)
  have Hv1 := hide (Hv.out.below hbt)
  have HE : Hid (∀ s, s < nd → valEnds (L s) rows (wd s) = some (E s)) := hide Hv.out.ends
  have HP : Hid (∀ g s k, g < ng → s < nd → k ≤ gn g → (pieceTo (L s) (E s) (z g) k).length ≤ 1099511627776) := hide (fun g s k hg hs hk => by
    have hg1 := H.out.gle g hg
    have hd1 := H.out.dle s hs
    rw [(H.out.args.dsize s hs).1] at hd1
    exact Nat.le_trans (piece_le' (by omega) hd1) (by omega))
  have Hc := hide (split10 wt.heap.size wt w.heap.size aw cw nd wd ad cd da dc L ag ng cg ga gn gc z rows E (given3 H1.out (by omega) hc4) (Nat.le_refl _) hrows hnd hng HE HP)
  clear hbt hst hc4 hc0 hc1 HP H Hv Hb
  go_wp2_with fail
  refine Hc.out.mono ?_
  rintro e w5 ⟨rfl, hs5⟩
  have HS5 := hide hs5
  have H5 := hide (H1.out.below hs5.below)
  have Hv5 := hide (Hv1.out.below hs5.below)
  have Hb5 := hide (Hbt.out.trans (hs5.below.mono Hbt.out.size))
  have Hwt := hide hs5.size
  clear hs5 Hc H1 Hv1 Hbt
  have hne1 : ((ng : Int) != (ng : Int)) = false := by simp
  have hne2 : ((nd : Int) != (nd : Int)) = false := by simp
  go_wp2_with fail
  go_loopw [37] (fun t wr => ∃ g : Nat, g ≤ ng ∧ t = .int .i64 g ∧ Below w5.heap.size w5 wr) (fun t _ => ng - (intOf t).toNat)
  case atStart => exact ⟨0, by omega, rfl, Below.refl _ _⟩
  case round =>
    obtain ⟨wg, hwg⟩ : ∃ x, x = wr := ⟨_, rfl⟩
    subst hwg
    obtain ⟨g, hg, rfl, hbg⟩ := hrel
    have Hbg := hide hbg
    by_cases hlt : g < ng
    · have hrow := (hbg.cell (p := ⟨wt.heap.size, g, none⟩) (by have := Hwt.out; show wt.heap.size < _; omega)).trans (HS5.out.rows g hlt)
      clear hbg
      go_wp2_with fail
      go_loopw [38] (fun t wr => ∃ s : Nat, s ≤ nd ∧ t = .int .i64 s ∧ Below w5.heap.size w5 wr) (fun t _ => nd - (intOf t).toNat)
      case atStart => exact ⟨0, by omega, rfl, Hbg.out⟩
      case round =>
        clear Hbg hrow
        obtain ⟨s, hs, rfl, hbs⟩ := hrel
        have Hbs := hide hbs
        by_cases hlts : s < nd
        · obtain ⟨ws, hws⟩ : ∃ x, x = wr := ⟨_, rfl⟩
          subst hws
          obtain ⟨a8, c8, hc8, hl8, hO8⟩ := HS5.out.done g s hlt hlts trivial
          have hrow := (hbs.cell (p := ⟨wt.heap.size, g, none⟩) (by have := Hwt.out; show wt.heap.size < _; omega)).trans (HS5.out.rows g hlt)
          have hcell := (hbs.cell (p := ⟨wt.heap.size + 1 + g, s, none⟩) (by have := Hwt.out; show wt.heap.size + 1 + g < _; omega)).trans hc8
          have hgs := H5.out.args.groups.below hbs
          obtain ⟨bg, og, hag, hbgl, hcg⟩ := hgs.addr (by omega)
          subst hag
          have hcg1 := hcg g hlt
          have hw20 := Hv5.out.ws.below hbs
          obtain ⟨bw, ow, haw, hbwl, hcw⟩ := hw20.addr (by omega)
          subst haw
          have hcw1 := hcw s hlts
          have hsz := H5.out.gle g hlt
          have hwok := H5.out.wok s hlts
          have hzok := H5.out.zok g hlt
          obtain ⟨es2, hes2, hpc⟩ := again hwok.1 (HE.out s hlts) (z g) (gn g) hzok
          have hdle := H5.out.dle s hlts
          have hdn := (H5.out.args.dsize s hlts).1
          have hlS : (pieceTo (L s) (E s) (z g) (gn g)).length ≤ 1099511627776 := Nat.le_trans (piece_le' hsz (by omega)) (by omega)
          have hAt8 : At w5.heap.size ws a8 (pieceTo (L s) (E s) (z g) (gn g)).length (bytesOf (pieceTo (L s) (E s) (z g) (gn g))) := by
            intro i hi
            obtain ⟨b8, q1, q2, q3, q4⟩ := hO8 i hi
            exact ⟨b8, 0, q1, q3, by rw [Nat.zero_add]; exact (hbs.cell (p := ⟨b8, i, none⟩) q3).trans q4⟩
          have Hc := hide (vals8_at w5.heap.size a8 _ c8 (gn g) (wd s) (pieceTo (L s) (E s) (z g) (gn g)) es2 ws rfl hlS hl8 hsz hwok hbs.size hAt8 hes2)
          have HAt8 := hide hAt8
          have Hes2 := hide hes2
          have Hpc := hide hpc
          obtain ⟨pl, hpl⟩ : ∃ pl, pl = pieceTo (L s) (E s) (z g) (gn g) := ⟨_, rfl⟩
          rw [← hpl] at Hc HAt8 Hes2 Hpc hcell hl8 hlS
          clear hpl
          obtain ⟨lS, hlSe⟩ : ∃ lS, lS = pl.length := ⟨_, rfl⟩
          rw [← hlSe] at Hc HAt8 hcell hl8 hlS
          have HlS := hide hlSe
          obtain ⟨a1, ha1⟩ : ∃ a1, a1 = ga g := ⟨_, rfl⟩
          obtain ⟨n1, hn1⟩ : ∃ n1, n1 = gn g := ⟨_, rfl⟩
          have HI := hide (H5.out.args.ints g hlt)
          have HZ := hide hzok
          rw [← ha1] at hcg1 HI
          rw [← hn1] at hcg1 hsz Hc Hes2 Hpc HI HZ
          have Ha1 := hide ha1
          have Hn1 := hide hn1
          have k1 : (⟨wt.heap.size, g, none⟩ : Addr).block < ws.heap.size := by have := Hwt.out; have := hbs.size; show wt.heap.size < _; omega
          have k2 : (⟨wt.heap.size + 1 + g, s, none⟩ : Addr).block < ws.heap.size := by have := Hwt.out; have := hbs.size; show wt.heap.size + 1 + g < _; omega
          have k3 : (⟨bg, og + g, none⟩ : Addr).block < ws.heap.size := by have := hbs.size; show bg < _; omega
          have k4 : (⟨bw, ow + s, none⟩ : Addr).block < ws.heap.size := by have := hbs.size; show bw < _; omega
          clear hc8 hO8 hgs hcg hw20 hcw hzok hes2 hpc hAt8 hlSe ha1 hn1 hbs hdn
          go_wp2_with fail
          go_region_held3 (fun w' => w'.cell? ⟨wt.heap.size, g, none⟩ = some (.slice (some ⟨wt.heap.size + 1 + g, 0, none⟩) nd nd) ∧ w'.cell? ⟨wt.heap.size + 1 + g, s, none⟩ = some (.slice a8 lS c8) ∧ w'.cell? ⟨bg, og + g, none⟩ = some (.slice a1 n1 (gc g)) ∧ w'.cell? ⟨bw, ow + s, none⟩ = some (.int .i64 (wd s))) (go_keep)
            (first | (go_at_call 8; refine (Hc.out _ rfl).mono ?_; rintro e w6 ⟨a3, c3, rfl, hb6, hgot⟩; have hS1 := (hb6.cell k1).trans hrow; have hS2 := (hb6.cell k2).trans hcell; have hS3 := (hb6.cell k3).trans hcg1; have hS4 := (hb6.cell k4).trans hcw1; have Hb6 := hide hb6; have Hgot := hide hgot; clear hb6 hgot))
          have Hgot6 := hide (cloned_at Hgot.out)
          have Hb56 := hide (Hbs.out.trans (Hb6.out.mono Hbs.out.size))
          have HAt6 := hide ((HAt8.out.mono Hbs.out.size).up Hb6.out)
          have HV6 := hide (Hv5.out.below Hb56.out)
          have HI6 := hide (HI.out.up Hb56.out)
          have HG6 := hide (H5.out.args.groups.up Hb56.out)
          clear hS1 hS2 hS3 hS4 Hc Hgot HAt8 HI k1 k2 k3 k4 hrow hcell hcg1 hcw1 Hb6
          go_wp2_with fail
          go_loopw [41] (fun t wr => ∃ i : Nat, i ≤ n1 ∧ t = .int .i64 i ∧ Below w6.heap.size w6 wr) (fun t _ => n1 - (intOf t).toNat)
          case atStart => exact ⟨0, by omega, rfl, Below.refl _ _⟩
          case round =>
            obtain ⟨i, hi, rfl, hbi⟩ := hrel
            have Hbi := hide hbi
            have hcgg := (HG6.out.up hbi).addr' hlt
            rw [← Ha1.out, ← Hn1.out] at hcgg
            by_cases hlti : i < n1
            · obtain ⟨b3, o3, ha3, hb3, hc3⟩ := (Hgot6.out.up hbi).addr (by omega)
              subst ha3
              have hc3i := hc3 i hlti
              obtain ⟨bi, oi, hai, hbil, hci⟩ := (HI6.out.up hbi).addr (by omega)
              rw [hai] at hcgg
              have hcz := hci i hlti
              obtain ⟨hz0, hz1⟩ := HZ.out i hlti
              obtain ⟨j, hj⟩ := Int.eq_ofNat_of_zero_le hz0
              rw [hj] at hcz hz1
              have hjn : j < rows := by omega
              obtain ⟨b23, o23, h23, hb23, hc23⟩ := (HV6.out.vals.up hbi).addr (by omega)
              subst h23
              have hcv := hc23 s hlts
              obtain ⟨bv, ov, hav, hbv, hcvv⟩ := ((HV6.out.val s hlts).up hbi).addr (by omega)
              rw [hav] at hcv
              have hcw := hcvv j hjn
              have hp := Hpc.out i hlti
              rw [hj] at hp
              obtain ⟨x1, k1, x2, k2, q, hp1, hp2, hcall⟩ := same_at wr (c1 := c8) (c2 := mc s) Hes2.out (HE.out s hlts) hlti hjn hp (HAt6.out.up hbi) HlS.out (((HV6.out.bytes s hlts).1).up hbi) (H5.out.args.dsize s hlts).1 (H5.out.dle s hlts)
              rw [hp1] at hc3i
              rw [hp2] at hcw
              have Hc := hide hcall
              have m1 : (⟨b3, o3 + i, none⟩ : Addr).block < wr.heap.size := hb3
              have m2 : (⟨b23, o23 + s, none⟩ : Addr).block < wr.heap.size := hb23
              have m3 : (⟨bg, og + g, none⟩ : Addr).block < wr.heap.size := World.block_lt_of_cell? _ _ hcgg
              have m4 : (⟨bi, oi + i, none⟩ : Addr).block < wr.heap.size := hbil
              have m5 : (⟨bv, ov + j, none⟩ : Addr).block < wr.heap.size := hbv
              clear hc3 hci hj hz0 hz1 hc23 hcvv hav hp hp1 hp2 hcall hbi hai
              go_wp2_with fail
              go_region_held3 (fun w' => w'.cell? ⟨b3, o3 + i, none⟩ = some (.slice x1 q k1) ∧ w'.cell? ⟨b23, o23 + s, none⟩ = some (.slice (some ⟨bv, ov, none⟩) rows (vc s)) ∧ w'.cell? ⟨bg, og + g, none⟩ = some (.slice (some ⟨bi, oi, none⟩) n1 (gc g)) ∧ w'.cell? ⟨bi, oi + i, none⟩ = some (.int .i64 j) ∧ w'.cell? ⟨bv, ov + j, none⟩ = some (.slice x2 q k2)) (go_keep)
                (first | (go_at_call 11; refine (Hc.out _ rfl).mono ?_; rintro e w7 ⟨rfl, hb7⟩; have hS1 := (hb7.cell m1).trans hc3i; have hS2 := (hb7.cell m2).trans hcv; have hS3 := (hb7.cell m3).trans hcgg; have hS4 := (hb7.cell m4).trans hcz; have hS5 := (hb7.cell m5).trans hcw; have Hb7 := hide hb7; clear hb7))
              go_wp2
              go_roundw
              case rel => exact ⟨i + 1, by omega, by go_num, Hbi.out.trans (Hb7.out.mono Hbi.out.size)⟩
              case measure => simp [intOf]; omega
            · clear hbi
              go_wp2
              go_roundw
              case rel => exact ⟨s + 1, by omega, by go_num, Hb56.out.trans (Hbi.out.mono Hb56.out.size)⟩
              case measure => simp [intOf]; omega
        · clear hbs
          go_wp2
          go_roundw
          case rel => exact ⟨g + 1, by omega, by go_num, Hbs.out⟩
          case measure => simp [intOf]; omega
    · go_wp2
      go_ret
      exact ⟨rfl, Hb5.out.trans (Hbg.out.mono Hb5.out.size)⟩
end Go.Proofs.Qxb6615609aFmt
