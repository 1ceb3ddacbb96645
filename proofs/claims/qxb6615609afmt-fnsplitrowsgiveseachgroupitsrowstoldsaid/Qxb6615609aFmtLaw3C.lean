/-
  The law 'FnSplitRowsGivesEachGroupItsRows' (function 3): its bound on what the call writes out.
-/
import Derived.Test.Qxb6615609aFmtLaw3L
import Derived.Deep.DeepCutAuto
import Derived.Deep.RegionHeld3
import Derived.BigRegion
namespace Go.Proofs.Qxb6615609aFmt
open Go.RowKit

/-- Block R: a row of numbers, the j-th at most 'b j'. -/
structure SumTo (w wr : World) (R rows : Nat) (b : Nat → Int) : Prop where
  below : Below R w wr
  lt : R < wr.heap.size
  cell : ∀ j, j < rows → ∃ x : Int, wr.cell? ⟨R, j, none⟩ = some (.int .i64 x) ∧ 0 ≤ x ∧ x ≤ b j
  open_ : ∀ j, j < rows → wr.frozen? ⟨R, j, none⟩ = false

theorem SumTo.weaken {w wr : World} {R rows : Nat} {b b' : Nat → Int} (h : SumTo w wr R rows b) (hb : ∀ j, j < rows → b j ≤ b' j) : SumTo w wr R rows b' :=
  ⟨h.below, h.lt, fun j hj => by obtain ⟨x, h1, h2, h3⟩ := h.cell j hj; exact ⟨x, h1, h2, Int.le_trans h3 (hb j hj)⟩, h.open_⟩

theorem SumTo.drawn {w wr W : World} {R rows : Nat} {b : Nat → Int} (h : SumTo w wr R rows b) (hW : W = { wr with drawn := W.drawn }) : SumTo w W R rows b := by
  have hb := below_drawn hW
  refine ⟨h.below.trans (hb.mono (Nat.le_of_lt h.lt)), by rw [hW]; exact h.lt, fun j hj => ?_, fun j hj => ?_⟩
  · rw [hW]; exact h.cell j hj
  · rw [hW]; exact h.open_ j hj

theorem SumTo.step {w wr : World} {R rows : Nat} {b b' : Nat → Int} (h : SumTo w wr R rows b) {k : Nat} (hk : k < rows) (x : Int) (h0 : 0 ≤ x) (hx : x ≤ b' k) (hb : ∀ j, j < rows → j ≠ k → b j ≤ b' j) :
    SumTo w (wr.setCell ⟨R, k, none⟩ (.int .i64 x)) R rows b' where
  below := h.below.setCell (Nat.le_refl _) _
  lt := by rw [World.size_setCell]; exact h.lt
  cell := by
    intro j hj
    obtain ⟨y, hy, hy0, hy1⟩ := h.cell j hj
    by_cases e : j = k
    · subst e
      exact ⟨x, World.cell?_setCell_same _ _ _ hy, h0, hx⟩
    · exact ⟨y, by rw [World.cell?_setCell_other _ _ _ _ (by intro c; injection c; omega)]; exact hy, hy0, Int.le_trans hy1 (hb j hj e)⟩
  open_ := by intro j hj; rw [World.frozen?_setCell]; exact h.open_ j hj

theorem mk22n (n : Nat) (hn : n ≤ 1048576) : ∃ C : Array Value, (∀ w : World, SumTo w (w.alloc (.cells C 3)) w.heap.size n (fun _ => 0)) ∧ ∀ w : World, (Instr.makeSlice 22 (.int .i64 (n : Int)) (.int .i64 (n : Int))).run Tryf.prog w = .ok (.slice (some ⟨w.heap.size, 0, none⟩) n n) (w.alloc (.cells C 3)) := by
  refine ⟨madeCells #[.int .i64 0] n, fun w => ⟨(Below.refl _ _).alloc (Nat.le_refl _) _, by simp, fun j hj => ⟨0, ?_, by omega, by omega⟩, fun j hj => by simp⟩, fun w => ?_⟩
  · rw [World.cell?_alloc_new, ← Array.getElem?_toList, toList_madeCells_one]
    simp [hj]
  · exact run_make_row' (P := Tryf.prog) 22 3 (.int .i64 0) 8 Tryf.underlying22 info3 rfl .i64 .i64 n (by omega) (by omega) w

set_option maxRecDepth 100000 in
set_option maxHeartbeats 16000000 in
theorem partC (w0 : World) (db nm : ByteArray) (nw : Nat) (wd : Nat → Int) (rows : Nat) (ad : Option Addr) (nd cd : Nat) (da : Nat → Option Addr) (dn dc : Nat → Nat) (L : Nat → List UInt8) (ag : Option Addr) (ng cg : Nat) (ga : Nat → Option Addr) (gn gc : Nat → Nat) (z : Nat → Nat → Int)
    (HD : Hid (PartD w0 db nm nw wd rows ad nd cd da dn dc L ag ng cg ga gn gc z)) : PartC w0 db nm nw wd rows ad nd cd da dn dc L ag ng cg ga gn gc z := by
  intro w aw cw a20 c20 a21 c21 a23 c23 ma mc va vc E pn bad H Hv Hb hdb hnm hnw hnd hng hrows K c12 c13 c14 c15 c16 c17 c18 c19 c25 c26 c27 c42 c43 c44 c45 c46 c47 c48 c49 c50 c51 c52 c53 c54 c55 c56 c57 c58 c59 c60 c61 c62 c63 c64 c65 c66 c67 c68 c69 c70 c71 c72 c73 c74 c75 c76 c77 c78 c79 c80 c81 c82 c83 c84 c85 c86 c87 c88 c89 c90 c91 c92 c93 c94 c95 c96 c97 c98 c99 c100 c101 c102 c103 c104 c105 c106 c107 c108 c109 c110 c111 c112 c113 c114 c115 c116 c117 c118 c119 c120 c121 c122 c123 c124 c125 c126 c127 c128 c129 c130 c131 c132 c133 c134 c135 c136 c137 c138 c139 c140 c141 c142 c143 c144 c145 c146 c147 c148 c149 c150 c151 c152 c153 c154 c155 c156 c157 c158 c159 c160 c161 c162 c163 c164 c165 c166 c167 c168 c169 c170 c171 c172 c173 c174 c175 c176 c177 c178 c179 c180 c181 c182 c183 c184 c185 c186 c187 c188 c189 c190 c191 c192 c193 c194 c195 c196 c197 c198 c199 c200 c201 c202 c203 c204 c205 c206 c207 c208 c209 c210 c211 c212 c213 c214 c215 c216 c217 c218 c219 c220 c221 c222 c223 c224 c225 c226 c227 c228 c229 c230 c231 c232 c233 c234 c235 c236 c237 c238 c239 c240 c241 c242 c243 c244 c245 c246 c247 c248 c249 c250 c251 c252 c253 c254 c255 c256 hK
  conv => arg 2; whnf
  conv at hK => enter [a, w', 1, 2]; whnf
  obtain ⟨C, hC, hmk⟩ := mk22n rows (by omega)
  have H0 := hide (hC w)
  have hpn := Hv.out.pn_le
  clear hC
  go_wp2_with fail
  go_loopw [29] (fun t wr => ∃ s : Nat, s ≤ pn ∧ t = .int .i64 s ∧ SumTo w wr w.heap.size rows (fun _ => (s : Int) * 1048576)) (fun t _ => pn - (intOf t).toNat)
  case atStart => exact ⟨0, by omega, rfl, H0.out.weaken (fun _ _ => by omega)⟩
  case round =>
    clear H0 hmk
    obtain ⟨ws, hws⟩ : ∃ x, x = wr := ⟨_, rfl⟩
    subst hws
    obtain ⟨s, hs, rfl, hsum⟩ := hrel
    have Hsum := hide hsum
    clear hsum
    by_cases hlt : s < pn
    · obtain ⟨b23, o23, h23, hb23, hc23⟩ := Hv.out.vals.addr (by omega)
      subst h23
      have hlen := (H.out.args.dsize s (by omega)).1
      have hdle := H.out.dle s (by omega)
      have hends := Hv.out.ends s hlt
      have Hval := hide (Hv.out.val s hlt)
      have hc23s := hc23 s hlt
      have Hpl : Hid (∀ r, r < rows → ∃ pa pl pc, pvA (ma s) (mc s) (E s) r = .slice pa pl pc ∧ pl ≤ 1048576) := hide (fun r hr => ⟨_, _, _, rfl, by
        have := valEnds_bounds hends (r : Int) (by omega) (by omega)
        omega⟩)
      clear hc23 hends hlen hdle
      go_wp2_with fail
      go_loopw [30] (fun t wr => ∃ r : Nat, r ≤ rows ∧ t = .int .i64 r ∧ SumTo w wr w.heap.size rows (fun j => if j < r then ((s : Int) + 1) * 1048576 else (s : Int) * 1048576)) (fun t _ => rows - (intOf t).toNat)
      case atStart => exact ⟨0, by omega, rfl, Hsum.out.weaken (fun j _ => by simp)⟩
      case round =>
        clear Hsum
        obtain ⟨r, hr, rfl, hsum⟩ := hrel
        have Hsum := hide hsum
        by_cases hltr : r < rows
        · obtain ⟨x, hx, hx0, hx1⟩ := hsum.cell r hltr
          rw [if_neg (by omega)] at hx1
          have hfr := hsum.open_ r hltr
          have hcv := (hsum.below.cell (p := ⟨b23, o23 + s, none⟩) hb23).trans hc23s
          obtain ⟨bv, ov, hav, hbv, hcvv⟩ := Hval.out.addr (by omega)
          rw [hav] at hcv
          have hcw := (hsum.below.cell (p := ⟨bv, ov + r, none⟩) hbv).trans (hcvv r hltr)
          obtain ⟨pa, pl, pc, hpv, hpl⟩ := Hpl.out r hltr
          rw [hpv] at hcw
          have Hstep : Hid (SumTo w (wr.setCell ⟨w.heap.size, r, none⟩ (.int .i64 (x + pl))) w.heap.size rows (fun j => if j < r + 1 then ((s : Int) + 1) * 1048576 else (s : Int) * 1048576)) := hide (
            hsum.step hltr (x + pl) (by omega) (by rw [if_pos (by omega)]; omega) (fun j _ hne => by
              by_cases e : j < r
              · rw [if_pos e, if_pos (by omega)]; omega
              · rw [if_neg e, if_neg (by omega)]; omega))
          have hx' : wr.drew.cell? ⟨w.heap.size, r, none⟩ = some (.int .i64 x) := hx
          have hfr' : wr.drew.frozen? ⟨w.heap.size, r, none⟩ = false := hfr
          have hcv' : wr.drew.cell? ⟨b23, o23 + s, none⟩ = some (.slice (some ⟨bv, ov, none⟩) rows (vc s)) := hcv
          have hcw' : wr.drew.cell? ⟨bv, ov + r, none⟩ = some (.slice pa pl pc) := hcw
          clear hsum hx hfr hcv hcw hcvv hpv
          have hs37 : (s : Int) * 1048576 ≤ 137438953472 := by omega
          have hwx : IntKind.i64.wrap (x + (pl : Int)) = x + (pl : Int) := by rw [IntKind.wrap_i64]; omega
          go_wp2_with fail
          go_region
          go_wp2
          go_roundw
          case rel => exact ⟨r + 1, by omega, by go_num, Hstep.out.drawn rfl⟩
          case measure => simp [intOf]; omega
        · obtain rfl : rows = r := by omega
          clear hsum
          go_wp2
          go_roundw
          case rel => exact ⟨s + 1, by omega, by go_num, Hsum.out.weaken (fun j hj => by rw [if_pos hj]; omega)⟩
          case measure => simp [intOf]; omega
    · obtain rfl : pn = s := by omega
      clear hs hlt
      have HG := hide (H.out.args.groups.below Hsum.out.below)
      have HIs := hide (fun g hg => (H.out.args.ints g hg).below Hsum.out.below)
      go_wp2_with fail
      go_loop [31, 32] (fun q t => ∃ k : Nat, k ≤ ng ∧ t = .int .i64 k ∧ ∃ y : Int, q = .int .i64 y ∧ 0 ≤ y ∧ y ≤ 4194304) (fun _ t => ng - (intOf t).toNat)
      case atStart => exact ⟨0, by omega, rfl, _, rfl, by omega, by omega⟩
      case round =>
        obtain ⟨g, hg, rfl, y, rfl, hy0, hy1⟩ := hrel
        by_cases hlt : g < ng
        · obtain ⟨b, off, ha, _, hc⟩ := HG.out.addr (by omega)
          subst ha
          have hck := hc g hlt
          have hsz := H.out.gle g hlt
          have HI := hide (HIs.out g hlt)
          have HZg := hide (H.out.zok g hlt)
          obtain ⟨a1, ha1⟩ : ∃ a1, a1 = ga g := ⟨_, rfl⟩
          obtain ⟨n1, hn1⟩ : ∃ n1, n1 = gn g := ⟨_, rfl⟩
          rw [← ha1] at HI hck
          rw [← hn1] at HI hck hsz HZg
          clear hc hn1 ha1
          go_wp2_with fail
          go_loop [31, 33] (fun q t => ∃ k : Nat, k ≤ n1 ∧ t = .int .i64 k ∧ ∃ y : Int, q = .int .i64 y ∧ 0 ≤ y ∧ y ≤ 4194304) (fun _ t => n1 - (intOf t).toNat)
          case atStart => exact ⟨0, by omega, rfl, _, rfl, by omega, by omega⟩
          case round =>
            obtain ⟨k, hk, rfl, y1, rfl, hy2, hy3⟩ := hrel
            by_cases hltk : k < n1
            · obtain ⟨bi, offi, hai, _, hci⟩ := HI.out.addr (by omega)
              subst hai
              have hcz := hci k hltk
              obtain ⟨hz0, hz1⟩ := HZg.out k hltk
              obtain ⟨j, hj⟩ := Int.eq_ofNat_of_zero_le hz0
              rw [hj] at hcz hz1
              have hjn : j < rows := by omega
              obtain ⟨x, hx, hx0, hx1⟩ := Hsum.out.cell j hjn
              have hx2 : x ≤ 137438953472 := by omega
              clear hci hj hz0 hz1 hx1
              go_wp2
              all_goals try (go_ret; exact ⟨rfl, Hb.out.trans (Hsum.out.below.mono Hb.out.size)⟩)
              go_round
              case rel => exact ⟨k + 1, by omega, by go_num, _, rfl, by omega, by omega⟩
              case measure => simp [intOf]; omega
            · go_wp2
              go_round
              case rel => exact ⟨g + 1, by omega, by go_num, _, rfl, by omega, by omega⟩
              case measure => simp [intOf]; omega
        · go_upto_region 92 with fail
          refine HD.out ws aw cw a20 c20 a21 c21 a23 c23 ma mc va vc E pn bad (H.out.below Hsum.out.below) (Hv.out.below Hsum.out.below) (Hb.out.trans (Hsum.out.below.mono Hb.out.size)) hdb hnm hnw hnd hng hrows _ _ _ _ _ _ _ _ _ _ _ _ _ _ _ _ _ _ _ _ _ _ _ _ _ _ _ _ _ _ _ _ _ _ _ _ _ _ _ _ _ _ _ _ _ _ _ _ _ _ _ _ _ _ _ _ _ _ _ _ _ _ _ _ _ _ _ _ _ _ _ _ _ _ _ _ _ _ _ _ _ _ _ _ _ _ _ _ _ _ _ _ _ _ _ _ _ _ _ _ _ _ _ _ _ _ _ _ _ _ _ _ _ _ _ _ _ _ _ _ _ _ _ _ _ _ _ _ _ _ _ _ _ _ _ _ _ _ _ _ _ _ _ _ _ _ _ _ _ _ _ _ _ _ _ _ _ _ _ _ _ _ _ _ _ _ _ _ _ _ _ _ _ _ _ _ _ _ _ _ _ _ _ _ _ _ _ _ _ _ _ _ _ _ _ _ _ _ _ _ _ _ _ _ _ _ _ _ _ _ _ _ _ _ _ _ _ _ _ _ _ _ _ _ _ _ _ _ _ _ _ _ _ _ _ _ _ _ _ _ _ _ _ _ _ _ _ _ _ _ _ _ _ _ _ _ _ _ _ _ _ _ _ _ _ _ _ _ _ _ _ _ _ _ _ _ _ _ _ _ _ _ _ _ _ _ _ _ ?_
          assumption
end Go.Proofs.Qxb6615609aFmt
