/-
  SplitRows (function 10), walked, where the data are just the rows' values.
-/
import Derived.Test.Qxb6615609aFmtSplitA
import Derived.Deep.RegionHeld3
import Derived.Deep.AppendLies
import Derived.Deep.DrawnRows
namespace Go.Proofs.Qxb6615609aFmt
open Go.RowKit

/-- What SplitRows is handed: a table with its widths, the data, the groups; all below B. -/
structure Given (B : Nat) (w : World) (bt : Nat) (aw : Option Addr) (cw nd : Nat) (wd : Nat → Int) (ad : Option Addr) (da : Nat → Option Addr) (dc : Nat → Nat) (L : Nat → List UInt8)
    (ag : Option Addr) (ng : Nat) (ga : Nat → Option Addr) (gn gc : Nat → Nat) (z : Nat → Nat → Int) (rows : Nat) : Prop where
  btlt : bt < B
  tab : w.cell? ⟨bt, 4, none⟩ = some (.slice aw nd cw)
  widths : At B w aw nd fun s => .int .i64 (wd s)
  wd0 : ∀ s, s < nd → 0 ≤ wd s ∧ wd s ≤ 16384
  data : At B w ad nd fun s => .slice (da s) (L s).length (dc s)
  bytes : ∀ s, s < nd → At B w (da s) (L s).length (bytesOf (L s)) ∧ (L s).length ≤ dc s ∧ (L s).length ≤ 4398046511104
  groups : At B w ag ng fun g => .slice (ga g) (gn g) (gc g)
  ints : ∀ g, g < ng → At B w (ga g) (gn g) fun i => .int .i64 (z g i)
  inside : ∀ g i, g < ng → i < gn g → 0 ≤ z g i ∧ z g i < rows
  glen : ∀ g, g < ng → gn g ≤ 131072

theorem Given.below {B : Nat} {w w' : World} {bt : Nat} {aw : Option Addr} {cw nd : Nat} {wd : Nat → Int} {ad : Option Addr} {da : Nat → Option Addr} {dc : Nat → Nat} {L : Nat → List UInt8}
    {ag : Option Addr} {ng : Nat} {ga : Nat → Option Addr} {gn gc : Nat → Nat} {z : Nat → Nat → Int} {rows : Nat} (h : Given B w bt aw cw nd wd ad da dc L ag ng ga gn gc z rows) (hb : Below B w w') :
    Given B w' bt aw cw nd wd ad da dc L ag ng ga gn gc z rows :=
  ⟨h.btlt, (hb.cell (p := ⟨bt, 4, none⟩) h.btlt).trans h.tab, h.widths.below hb, h.wd0, h.data.below hb, fun s hs => ⟨(h.bytes s hs).1.below hb, (h.bytes s hs).2⟩, h.groups.below hb, fun g hg => (h.ints g hg).below hb, h.inside, h.glen⟩

/-- The cells of a part of a byte string. -/
theorem news_at {w : World} {bb offb lo hi : Nat} {l : List UInt8} (h : ∀ i, i < l.length → w.cell? ⟨bb, offb + i, none⟩ = some (bytesOf l i)) (hhi : hi ≤ l.length) :
    ∀ j u, (Lib.byteCells ((l.take hi).drop lo))[j]? = some u → w.cell? ((⟨bb, offb + lo, none⟩ : Addr).add j) = some u := by
  intro j u hj
  simp only [Lib.byteCells, List.getElem?_map, List.getElem?_drop, Option.map_eq_some_iff] at hj
  obtain ⟨x, hx, rfl⟩ := hj
  rw [List.getElem?_take] at hx
  split at hx
  · have hlt : lo + j < l.length := by omega
    rw [Addr.add_lit, Nat.add_assoc, h (lo + j) hlt]
    simp [bytesOf, List.getD_eq_getElem?_getD, hx]
  · simp at hx

theorem bytes_one (l : List UInt8) : ∀ u ∈ Lib.byteCells l, u.oneCell' = true := by
  intro u hu
  simp only [Lib.byteCells, List.mem_map] at hu
  obtain ⟨x, _, rfl⟩ := hu
  rfl

theorem below_grown {w w' : World} {B n : Nat} {v : Value} {xs : List Value} (h : w.ownsRow B 5 1 v n xs) (hg : w.grownBy w' v.ownBlock) (hB : B ≤ w.heap.size) : Below B w w' :=
  (Below.refl _ _).grown hg hB (fun k hk => (h.lt k hk).1)

/-- .. where the append was met behind draws. -/
theorem below_grown2 {w W w' : World} {B n : Nat} {v : Value} {xs : List Value} (h : w.ownsRow B 5 1 v n xs) (hg : W.grownBy w' v.ownBlock) (hW : W = { w with drawn := W.drawn }) (hB : B ≤ w.heap.size) : Below B w w' := by
  have e : Below B w W := by rw [hW]; exact ⟨rfl, rfl, rfl, Nat.le_refl _, fun _ _ => rfl⟩
  have h2 : W.ownsRow B 5 1 v n xs := by rw [hW]; exact h
  exact e.trans (below_grown h2 hg (Nat.le_trans hB e.size))

/-- One value more behind the row. -/
theorem own_step {w : World} {B m : Nat} {v : Value} {pl q r : List UInt8} (h : w.ownsRow B 5 1 v (pl.length + m) (Lib.byteCells pl ++ Lib.byteCells q)) (hr : r = pl ++ q) (hq : q.length = m) : w.ownsRow B 5 1 v r.length (Lib.byteCells r) := by
  subst hq
  rw [hr, Lib.byteCells_append, List.length_append]
  exact h

/-- What SplitRows comes to. -/
def Split (ng nd : Nat) (pc : Nat → Nat → List UInt8) (w : World) (e : Ending) (w' : World) : Prop :=
  e = .returned (.tuple #[.slice (some ⟨w.heap.size, 0, none⟩) ng ng, .nilIface]) ∧ SpTo w w' w.heap.size ng nd pc (fun _ _ => True)

set_option maxRecDepth 100000 in
set_option maxHeartbeats 8000000 in
theorem split10 (B : Nat) (w : World) (bt : Nat) (aw : Option Addr) (cw nd : Nat) (wd : Nat → Int) (ad : Option Addr) (cd : Nat) (da : Nat → Option Addr) (dc : Nat → Nat) (L : Nat → List UInt8)
    (ag : Option Addr) (ng cg : Nat) (ga : Nat → Option Addr) (gn gc : Nat → Nat) (z : Nat → Nat → Int) (rows : Nat) (E : Nat → List Nat)
    (H : Hid (Given B w bt aw cw nd wd ad da dc L ag ng ga gn gc z rows)) (hB : B ≤ w.heap.size) (hrows : rows ≤ 65536) (hnd : nd ≤ 131072) (hng : ng ≤ 131072)
    (HE : Hid (∀ s, s < nd → valEnds (L s) rows (wd s) = some (E s))) (HP : Hid (∀ g s k, g < ng → s < nd → k ≤ gn g → (pieceTo (L s) (E s) (z g) k).length ≤ 1099511627776)) :
    Calls Tryf.prog 10 #[.pointer (some ⟨bt, 0, none⟩), .int .i64 rows, .slice ad nd cd, .slice ag ng cg] w fun e w' => Split ng nd (fun g s => pieceTo (L s) (E s) (z g) (gn g)) w e w' := by
  obtain ⟨C1, hC1, hmk1⟩ := mk29 ng (by omega)
  obtain ⟨C2, hC2, hmk2⟩ := mk23 nd (by omega)
  have HM : Hid (MkTo w (w.alloc (.cells C1 23)) w.heap.size ng nd 0) := MkTo.start w ng nd C1 hC1
  clear hC1
  go_enter Tryf.func10, Tryf.ntmps10
  go_wp2_with fail
  refine (check17 bt aw ad nd cw cd w H.out.tab).mono ?_
  rintro e w0 ⟨rfl, rfl⟩
  go_wp2_with fail
  go_loopw [33] (fun t wr => ∃ k : Nat, k ≤ ng ∧ t = .int .i64 k ∧ MkTo w0 wr w0.heap.size ng nd k) (fun t _ => ng - (intOf t).toNat)
  case atStart => exact ⟨0, by omega, rfl, HM.out⟩
  case round =>
    clear HM hmk1
    obtain ⟨k, hk, rfl, hm⟩ := hrel
    by_cases hlt : k < ng
    · have HS : Hid (MkTo w0 ((wr.setCell ⟨w0.heap.size, k, none⟩ (.slice (some ⟨wr.heap.size, 0, none⟩) nd nd)).alloc (.cells C2 26)) w0.heap.size ng nd (k + 1)) := hm.step hlt C2 hC2
      obtain ⟨v, hv⟩ := hm.row k hlt
      have hfr := hm.rowOpen k hlt
      have hne : w0.heap.size < wr.heap.size := by have := hm.size; omega
      clear hm
      go_wp2
      go_roundw
      case rel => exact ⟨k + 1, by omega, by go_num, HS.out⟩
      case measure => simp [intOf]; omega
    · clear hmk2 hC2
      obtain rfl : ng = k := by omega
      have hG := H.out.below (hm.below.mono hB)
      have HS : Hid (SpTo w0 wr w0.heap.size ng nd (fun g s => pieceTo (L s) (E s) (z g) (gn g)) (fun _ s => s < 0)) := (hm.full _).weaken (fun _ s _ _ h => absurd h (by omega))
      have htab := hG.tab
      clear hm hk hlt hG
      go_wp2_with fail
      clear htab
      go_loopw [48] (fun t wr => ∃ s : Nat, s ≤ nd ∧ t = .int .i64 s ∧ SpTo w0 wr w0.heap.size ng nd (fun g s => pieceTo (L s) (E s) (z g) (gn g)) (fun _ s' => s' < s)) (fun t _ => nd - (intOf t).toNat)
      case atStart => exact ⟨0, by omega, rfl, HS.out⟩
      case round =>
        clear HS
        obtain ⟨s, hs, rfl, hsp⟩ := hrel
        by_cases hlt : s < nd
        · have hG := H.out.below (hsp.below.mono hB)
          obtain ⟨bw, offw, haw, _, hcw⟩ := hG.widths.addr (by omega)
          subst haw
          obtain ⟨bd, offd, had, hbd, hcd⟩ := hG.data.addr (by omega)
          subst had
          have hcw1 := hcw s hlt
          have hcd1 := hcd s hlt
          have Hb := hide (hG.bytes s hlt)
          have hBs : B ≤ wr.heap.size := by have := hsp.size; omega
          have Hends := hide (ends18 B (da s) (L s).length (dc s) rows (wd s) (L s) (E s) wr rfl Hb.out.2.2 Hb.out.2.1 hrows (hG.wd0 s hlt) hBs Hb.out.1 (HE.out s hlt))
          have Hsp := hide hsp
          clear hG hcw hcd hsp
          go_wp2_with fail
          refine Hends.out.mono ?_
          rintro e w1 ⟨fv, rfl, hb1, hfn⟩
          have Hsp1 := hide (Hsp.out.grow hb1)
          have hlo : w0.heap.size + 1 + ng ≤ wr.heap.size := Hsp.out.size
          have Hfn := hide hfn
          clear Hends Hsp hfn hcw1 hcd1
          go_wp2_with fail
          go_loopw [74] (fun t wr => ∃ g : Nat, g ≤ ng ∧ t = .int .i64 g ∧ SpTo w0 wr w0.heap.size ng nd (fun g s => pieceTo (L s) (E s) (z g) (gn g)) (fun g' s' => s' < s ∨ (s' = s ∧ g' < g)) ∧ EndsFn (w0.heap.size + 1 + ng) wr fv rows (wd s) (E s)) (fun t _ => ng - (intOf t).toNat)
          case atStart => exact ⟨0, by omega, rfl, Hsp1.out.weaken (fun g' s' _ _ h => by omega), Hfn.out.lower hlo⟩
          case round =>
            clear Hsp1 Hfn hlo hBs hb1
            obtain ⟨wg, hwg⟩ : ∃ x, x = wr := ⟨_, rfl⟩
            subst hwg
            obtain ⟨g, hg, rfl, hsp, hfn⟩ := hrel
            by_cases hltg : g < ng
            · have hG := H.out.below (hsp.below.mono hB)
              obtain ⟨bg, offg, hag, _, hcg⟩ := hG.groups.addr (by omega)
              subst hag
              have hcg1 := hcg g hltg
              have hgl := hG.glen g hltg
              have HI := hide (hG.ints g hltg)
              have HZ := hide (fun i => hG.inside g i hltg)
              have HPg := hide (fun k => HP.out g s k hltg hlt)
              have HG := hide hG
              obtain ⟨a1, ha1⟩ : ∃ a1, a1 = ga g := ⟨_, rfl⟩
              obtain ⟨n1, hn1⟩ : ∃ n1, n1 = gn g := ⟨_, rfl⟩
              rw [← ha1] at HI hcg1
              rw [← hn1] at HI HZ hcg1 hgl HPg
              have Hn1 := hide hn1
              have Ha1 := hide ha1
              have Hsp := hide hsp
              have Hfn := hide hfn
              clear hG hcg hsp hfn hn1 ha1
              go_wp2_with fail
              go_loopw [19, 81] (fun v t w2 => ∃ k : Nat, k ≤ n1 ∧ t = .int .i64 k ∧ w2.ownsRow wg.heap.size 5 1 v (pieceTo (L s) (E s) (z g) k).length (Lib.byteCells (pieceTo (L s) (E s) (z g) k)) ∧ Below wg.heap.size wg w2) (fun _ t _ => n1 - (intOf t).toNat)
              case atStart => exact ⟨0, by omega, rfl, World.ownsRow_nil _ _ _ _, Below.refl _ _⟩
              case round =>
                obtain ⟨k, hk, rfl, hown, hbel⟩ := hrel
                by_cases hltk : k < n1
                · obtain ⟨bi, offi, hai, _, hci⟩ := HI.out.addr (by omega)
                  subst hai
                  have hbB : B ≤ wg.heap.size := by have := Hsp.out.size; omega
                  have hck : wr.cell? ⟨bi, offi + k, none⟩ = some (.int .i64 (z g k)) := (HI.out.below (hbel.mono hbB)).addr' hltk
                  have hzk := HZ.out k hltk
                  have hve := HE.out s hlt
                  have hbd2 := valEnds_bounds hve (z g k) hzk.1 hzk.2
                  have hG := HG.out.below (hbel.mono hbB)
                  have hby := hG.bytes s hlt
                  obtain ⟨bb, offb, hda, _, hcb⟩ := hby.1.addr (by omega)
                  have hcd1 : wr.cell? ⟨bd, offd + s, none⟩ = some (.slice (some ⟨bb, offb, none⟩) (L s).length (dc s)) := by
                    rw [← hda]; exact hG.data.addr' hlt
                  have hPk := HPg.out (k + 1) (by omega)
                  rw [pieceTo_succ, List.length_append, List.length_drop, List.length_take] at hPk
                  have hsucc := pieceTo_succ (L s) (E s) (z g) k
                  have hgv := (Hfn.out.grow hbel).gives (HG.out.wd0 s hlt).2 hrows
                  have hlen1 : (L s).length ≤ dc s := hby.2.1
                  have hlen2 : (L s).length ≤ 4398046511104 := hby.2.2
                  obtain ⟨zz, hzz⟩ : ∃ zz, zz = z g k := ⟨_, rfl⟩
                  obtain ⟨l, hl⟩ : ∃ l, l = L s := ⟨_, rfl⟩
                  obtain ⟨lo, hlo⟩ : ∃ lo, lo = endAt (E s) (zz - 1) := ⟨_, rfl⟩
                  obtain ⟨hi, hhi⟩ : ∃ hi, hi = endAt (E s) zz := ⟨_, rfl⟩
                  rw [← hzz] at hck hzk hbd2 hPk hsucc
                  rw [← hl] at hbd2 hPk hsucc hcb hcd1 hlen1 hlen2 hown
                  rw [← hlo, ← hhi] at hbd2 hPk hsucc
                  obtain ⟨hz0, hz1⟩ := hzk
                  obtain ⟨hlh, hhl⟩ := hbd2
                  rw [Nat.min_eq_left hhl] at hPk
                  have Hl := hide hl
                  have Hzz := hide hzz
                  have Hsucc := hide hsucc
                  have Hown := hide hown
                  have Hbel := hide hbel
                  have Hcb := hide hcb
                  obtain ⟨pl, hpl⟩ : ∃ pl, pl = pieceTo l (E s) (z g) k := ⟨_, rfl⟩
                  rw [← hpl] at Hown Hsucc hPk
                  have Hpl := hide hpl
                  have hgd : ∃ bf, (fv = .func (.func 21) #[] #[.pointer (some ⟨bf, 0, none⟩)] ∧ Hid (∀ W : World, (∀ a, W.cell? a = wr.cell? a) → Calls Tryf.prog 21 #[.int .i64 (zz - 1), .pointer (some ⟨bf, 0, none⟩)] W fun e w' => e = .returned (.int .i64 (lo : Int)) ∧ w' = W) ∧ Hid (∀ W : World, (∀ a, W.cell? a = wr.cell? a) → Calls Tryf.prog 21 #[.int .i64 zz, .pointer (some ⟨bf, 0, none⟩)] W fun e w' => e = .returned (.int .i64 (hi : Int)) ∧ w' = W)) ∨
                      (fv = .func (.func 23) #[] #[.pointer (some ⟨bf, 0, none⟩)] ∧ Hid (∀ W : World, (∀ a, W.cell? a = wr.cell? a) → Calls Tryf.prog 23 #[.int .i64 (zz - 1), .pointer (some ⟨bf, 0, none⟩)] W fun e w' => e = .returned (.int .i64 (lo : Int)) ∧ w' = W) ∧ Hid (∀ W : World, (∀ a, W.cell? a = wr.cell? a) → Calls Tryf.prog 23 #[.int .i64 zz, .pointer (some ⟨bf, 0, none⟩)] W fun e w' => e = .returned (.int .i64 (hi : Int)) ∧ w' = W)) := by
                    rw [hlo, hhi]
                    rcases hgv with ⟨bf, hfv, hgv⟩ | ⟨bf, hfv, hgv⟩
                    · exact ⟨bf, .inl ⟨hfv, hgv (zz - 1) (by omega) (by omega), hgv zz (by omega) hz1⟩⟩
                    · exact ⟨bf, .inr ⟨hfv, hgv (zz - 1) (by omega) (by omega), hgv zz (by omega) hz1⟩⟩
                  clear hgv hve hG hby hda hcb hsucc hown hbel hpl hl hlo hhi hci hzz
                  obtain ⟨i0, hi0, hz0', hz1', hz2'⟩ := info_parts info5
                  have hbd' : (⟨bd, offd + s, none⟩ : Addr).block < wg.heap.size := by show bd < _; omega
                  obtain ⟨z1, hz1e⟩ : ∃ z1, z1 = zz - 1 := ⟨_, rfl⟩
                  have hwz : IntKind.i64.wrap (zz - 1) = z1 := by rw [IntKind.wrap_i64]; omega
                  rw [← hz1e] at hgd
                  clear hz1e
                  have hx1 : (0 : Int) ≤ (lo : Int) := by omega
                  have hx2 : (lo : Int) ≤ (hi : Int) := by omega
                  have hx3 : (hi : Int) ≤ (dc s : Int) := by omega
                  have hx4 : (lo : Int) < (dc s : Int) := by omega
                  obtain ⟨bf, ⟨hfv, Hc1, Hc2⟩ | ⟨hfv, Hc1, Hc2⟩⟩ := hgd
                  · subst hfv
                    go_wp2_with fail
                    go_region_held3 (fun w' => w'.cell? ⟨bd, offd + s, none⟩ = some (.slice (some ⟨bb, offb, none⟩) l.length (dc s))) (go_keep)
                      (first
                        | (go_at_call_of 21 (Value.int IntKind.i64 z1); refine (Hc1.out _ ?_).mono ?_; (intro a; rfl); rintro e w' ⟨rfl, rfl⟩)
                        | (go_at_call_of 21 (Value.int IntKind.i64 zz); refine (Hc2.out _ ?_).mono ?_; (intro a; rfl); rintro e w' ⟨rfl, rfl⟩)
                        | (show (if Region.wanted { dst := some 98, op := _, type := _, pos := _, after := _, guard := _ } _ = true then _ else _); refine step_append_lies _ ?a1 (.tmp 85) (.tmp 97) 26 ?a2 wg.heap.size 5 i0 (.int .u8 0) 1 1 Tryf.underlying26 hi0 hz0' hz1' hz2' ?a3 ?a4 u19 pl.length (Lib.byteCells pl) ?a5 ?a6 ⟨bb, offb + lo, none⟩ (hi - lo) (dc s - lo) (Lib.byteCells ((l.take hi).drop lo)) ?a7 ?a8 ?a9 ?a10 ?a11 ?a12 ?a13 ?a14 wr.heap.size ?a15 ?a16; (case a2 => rfl); (case a1 => rfl); (case a3 => rfl); (case a4 => omega); (case a5 => rfl); (case a6 => exact Hown.out); (case a7 => first | (go_simp; done) | (go_simp; omega)); (case a8 => first | (simp [Lib.byteCells]; done) | (simp [Lib.byteCells]; omega)); (case a9 => exact news_at Hcb.out hhl); (case a10 => exact bytes_one _); (case a11 => omega); (case a12 => unfold maxLen; omega); (case a13 => omega); (case a14 => exact Hbel.out.size); (case a15 => rfl); intro gg cap w1 hown1 hgrow hat hlt1; have HBw := hide (below_grown2 Hown.out hgrow rfl Hbel.out.size); have hS1 := (HBw.out.cell (p := ⟨bd, offd + s, none⟩) hbd').trans hcd1; have Hown1 := hide hown1; clear hown1 hgrow hat hlt1))
                    go_wp2
                    go_roundw
                    case rel => exact ⟨k + 1, by omega, by go_num, own_step Hown1.out (by rw [← Hl.out]; exact Hsucc.out) (by simp; omega), Hbel.out.trans HBw.out⟩
                    case measure => simp [intOf]; omega
                  · subst hfv
                    go_wp2_with fail
                    go_region_held3 (fun w' => w'.cell? ⟨bd, offd + s, none⟩ = some (.slice (some ⟨bb, offb, none⟩) l.length (dc s))) (go_keep)
                      (first
                        | (go_at_call_of 23 (Value.int IntKind.i64 z1); refine (Hc1.out _ ?_).mono ?_; (intro a; rfl); rintro e w' ⟨rfl, rfl⟩)
                        | (go_at_call_of 23 (Value.int IntKind.i64 zz); refine (Hc2.out _ ?_).mono ?_; (intro a; rfl); rintro e w' ⟨rfl, rfl⟩)
                        | (show (if Region.wanted { dst := some 98, op := _, type := _, pos := _, after := _, guard := _ } _ = true then _ else _); refine step_append_lies _ ?b1 (.tmp 85) (.tmp 97) 26 ?b2 wg.heap.size 5 i0 (.int .u8 0) 1 1 Tryf.underlying26 hi0 hz0' hz1' hz2' ?b3 ?b4 u19 pl.length (Lib.byteCells pl) ?b5 ?b6 ⟨bb, offb + lo, none⟩ (hi - lo) (dc s - lo) (Lib.byteCells ((l.take hi).drop lo)) ?b7 ?b8 ?b9 ?b10 ?b11 ?b12 ?b13 ?b14 wr.heap.size ?b15 ?b16; (case b2 => rfl); (case b1 => rfl); (case b3 => rfl); (case b4 => omega); (case b5 => rfl); (case b6 => exact Hown.out); (case b7 => first | (go_simp; done) | (go_simp; omega)); (case b8 => first | (simp [Lib.byteCells]; done) | (simp [Lib.byteCells]; omega)); (case b9 => exact news_at Hcb.out hhl); (case b10 => exact bytes_one _); (case b11 => omega); (case b12 => unfold maxLen; omega); (case b13 => omega); (case b14 => exact Hbel.out.size); (case b15 => rfl); intro gg cap w1 hown1 hgrow hat hlt1; have HBw := hide (below_grown2 Hown.out hgrow rfl Hbel.out.size); have hS1 := (HBw.out.cell (p := ⟨bd, offd + s, none⟩) hbd').trans hcd1; have Hown1 := hide hown1; clear hown1 hgrow hat hlt1))
                    go_wp2
                    go_roundw
                    case rel => exact ⟨k + 1, by omega, by go_num, own_step Hown1.out (by rw [← Hl.out]; exact Hsucc.out) (by simp; omega), Hbel.out.trans HBw.out⟩
                    case measure => simp [intOf]; omega
                · obtain rfl : n1 = k := by omega
                  have hspw := Hsp.out.grow hbel
                  have hfnw := Hfn.out.grow hbel
                  have hn1 := Hn1.out
                  subst hn1
                  obtain ⟨av, cv, hv, hlc, hOwn⟩ := own_of_row hown (Hsp.out.size)
                  subst hv
                  have hr1 := hspw.rows g hltg
                  obtain ⟨v0, hv0⟩ := hspw.there g s hltg hlt
                  have hf0 := hspw.open_ g s hltg hlt
                  have HS2 := hide (hspw.store hltg hlt hlc hOwn (fun g' s' => s' < s ∨ (s' = s ∧ g' < g + 1)) (by intro g' s' h; omega))
                  have HF2 := hide (hfnw.store (g := w0.heap.size + 1 + g) (s := s) (by omega) (.slice av (pieceTo (L s) (E s) (z g) (gn g)).length cv))
                  clear hspw hfnw hown hbel hOwn
                  generalize (pieceTo (L s) (E s) (z g) (gn g)).length = plen at HS2 HF2 hlc
                  go_wp2
                  go_roundw
                  case rel => exact ⟨g + 1, by omega, by go_num, HS2.out, HF2.out⟩
                  case measure => simp [intOf]; omega
            · obtain rfl : ng = g := by omega
              have HS2 := hide (hsp.weaken (P' := fun _ s' => s' < s + 1) (fun g' s' hg' _ h => by omega))
              clear hsp hfn
              go_wp2
              go_roundw
              case rel => exact ⟨s + 1, by omega, by go_num, HS2.out⟩
              case measure => simp [intOf]; omega
        · obtain rfl : nd = s := by omega
          have HS2 := hide (hsp.weaken (P' := fun _ _ => True) (fun _ s' _ hs' _ => hs'))
          clear hsp
          go_wp2
          go_ret2
          exact ⟨rfl, HS2.out⟩
end Go.Proofs.Qxb6615609aFmt
