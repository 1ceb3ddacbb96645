/-
  SplitRows (function 10), walked, where byte string sf is the first that is not just the rows' values.
-/
import Derived.Test.Qxb6615609aFmtSplitB
import Derived.Test.Qxb6615609aFmtEndsBad
namespace Go.Proofs.Qxb6615609aFmt
open Go.RowKit Go.Extern.Stop Go.Stop Go.Extern

/-- No split and an error; nothing that was there has turned. -/
def SplitBad (w : World) (e : Ending) (w' : World) : Prop := ∃ t a, e = .returned (.tuple #[.slice none 0 0, .iface t (.pointer (some a))]) ∧ Below w.heap.size w w'

set_option maxRecDepth 100000 in
set_option maxHeartbeats 8000000 in
theorem split10_bad (F : Interp) (db nm : ByteArray) (sf : Nat) (B : Nat) (w : World) (bt : Nat) (aw : Option Addr) (cw nd : Nat) (wd : Nat → Int) (ad : Option Addr) (cd : Nat) (da : Nat → Option Addr) (dc : Nat → Nat) (L : Nat → List UInt8)
    (ag : Option Addr) (ng cg : Nat) (ga : Nat → Option Addr) (gn gc : Nat → Nat) (z : Nat → Nat → Int) (rows : Nat) (E : Nat → List Nat)
    (H : Hid (Given B w bt aw cw nd wd ad da dc L ag ng ga gn gc z rows)) (hB : B ≤ w.heap.size) (hrows : rows ≤ 65536) (hnd : nd ≤ 131072) (hng : ng ≤ 131072)
    (hF : Hid (F.answers w.tape)) (hsf : sf < nd) (Hbad : Hid (valEnds (L sf) rows (wd sf) = none)) (Hdb : Hid (w.cell? ⟨bt, 0, none⟩ = some (.string db))) (Hnm : Hid (w.cell? ⟨bt, 1, none⟩ = some (.string nm))) (hd : db.size ≤ 1048576) (hn : nm.size ≤ 1048576)
    (HE : Hid (∀ s, s < sf → valEnds (L s) rows (wd s) = some (E s))) (HP : Hid (∀ g s k, g < ng → s < sf → k ≤ gn g → (pieceTo (L s) (E s) (z g) k).length ≤ 1099511627776)) :
    Calls Tryf.prog 10 #[.pointer (some ⟨bt, 0, none⟩), .int .i64 rows, .slice ad nd cd, .slice ag ng cg] w (SplitBad w) := by
  obtain ⟨C1, hC1, hmk1⟩ := mk29 ng (by omega)
  obtain ⟨C2, hC2, hmk2⟩ := mk23 nd (by omega)
  have HM : Hid (MkTo w (w.alloc (.cells C1 23)) w.heap.size ng nd 0) := MkTo.start w ng nd C1 hC1
  clear hC1
  go_enter Tryf.func10, Tryf.ntmps10
  go_wp2_with fail
  refine (check17 bt aw ad nd cw cd w H.out.tab).mono ?_
  rintro e w0 ⟨rfl, rfl⟩
  go_wp2_with fail
  go_loopw [33] (fun t wr => ∃ k : Nat, k ≤ ng ∧ t = .int .i64 k ∧ MkTo w0 wr w0.heap.size ng nd k) (fun t _ => ng - (intOf t).toNat)
  case atStart => exact ⟨0, by omega, rfl, HM.out⟩
  case round =>
    clear HM hmk1
    obtain ⟨k, hk, rfl, hm⟩ := hrel
    by_cases hlt : k < ng
    · have HS : Hid (MkTo w0 ((wr.setCell ⟨w0.heap.size, k, none⟩ (.slice (some ⟨wr.heap.size, 0, none⟩) nd nd)).alloc (.cells C2 26)) w0.heap.size ng nd (k + 1)) := hm.step hlt C2 hC2
      obtain ⟨v, hv⟩ := hm.row k hlt
      have hfr := hm.rowOpen k hlt
      have hne : w0.heap.size < wr.heap.size := by have := hm.size; omega
      clear hm
      go_wp2
      go_roundw
      case rel => exact ⟨k + 1, by omega, by go_num, HS.out⟩
      case measure => simp [intOf]; omega
    · clear hmk2 hC2
      obtain rfl : ng = k := by omega
      have hG := H.out.below (hm.below.mono hB)
      have HS : Hid (SpTo w0 wr w0.heap.size ng nd (fun g s => pieceTo (L s) (E s) (z g) (gn g)) (fun _ s => s < 0)) := (hm.full _).weaken (fun _ s _ _ h => absurd h (by omega))
      have htab := hG.tab
      clear hm hk hlt hG
      go_wp2_with fail
      clear htab
      go_loopw [48] (fun t wr => ∃ s : Nat, s ≤ sf ∧ t = .int .i64 s ∧ SpTo w0 wr w0.heap.size ng nd (fun g s => pieceTo (L s) (E s) (z g) (gn g)) (fun _ s' => s' < s)) (fun t _ => nd - (intOf t).toNat)
      case atStart => exact ⟨0, by omega, rfl, HS.out⟩
      case round =>
        clear HS
        obtain ⟨s, hs, rfl, hsp⟩ := hrel
        by_cases hls : s < sf
        · have hlt : s < nd := by omega
          have hG := H.out.below (hsp.below.mono hB)
          obtain ⟨bw, offw, haw, _, hcw⟩ := hG.widths.addr (by omega)
          subst haw
          obtain ⟨bd, offd, had, hbd, hcd⟩ := hG.data.addr (by omega)
          subst had
          have hcw1 := hcw s hlt
          have hcd1 := hcd s hlt
          have Hb := hide (hG.bytes s hlt)
          have hBs : B ≤ wr.heap.size := by have := hsp.size; omega
          have Hends := hide (ends18 B (da s) (L s).length (dc s) rows (wd s) (L s) (E s) wr rfl Hb.out.2.2 Hb.out.2.1 hrows (hG.wd0 s hlt) hBs Hb.out.1 (HE.out s hls))
          have Hsp := hide hsp
          clear hG hcw hcd hsp
          go_wp2_with fail
          refine Hends.out.mono ?_
          rintro e w1 ⟨fv, rfl, hb1, hfn⟩
          have Hsp1 := hide (Hsp.out.grow hb1)
          have hlo : w0.heap.size + 1 + ng ≤ wr.heap.size := Hsp.out.size
          have Hfn := hide hfn
          clear Hends Hsp hfn hcw1 hcd1
          go_wp2_with fail
          go_loopw [74] (fun t wr => ∃ g : Nat, g ≤ ng ∧ t = .int .i64 g ∧ SpTo w0 wr w0.heap.size ng nd (fun g s => pieceTo (L s) (E s) (z g) (gn g)) (fun g' s' => s' < s ∨ (s' = s ∧ g' < g)) ∧ EndsFn (w0.heap.size + 1 + ng) wr fv rows (wd s) (E s)) (fun t _ => ng - (intOf t).toNat)
          case atStart => exact ⟨0, by omega, rfl, Hsp1.out.weaken (fun g' s' _ _ h => by omega), Hfn.out.lower hlo⟩
          case round =>
            clear Hsp1 Hfn hlo hBs hb1
            obtain ⟨wg, hwg⟩ : ∃ x, x = wr := ⟨_, rfl⟩
            subst hwg
            obtain ⟨g, hg, rfl, hsp, hfn⟩ := hrel
            by_cases hltg : g < ng
            · have hG := H.out.below (hsp.below.mono hB)
              obtain ⟨bg, offg, hag, _, hcg⟩ := hG.groups.addr (by omega)
              subst hag
              have hcg1 := hcg g hltg
              have hgl := hG.glen g hltg
              have HI := hide (hG.ints g hltg)
              have HZ := hide (fun i => hG.inside g i hltg)
              have HPg := hide (fun k => HP.out g s k hltg hls)
              have HG := hide hG
              obtain ⟨a1, ha1⟩ : ∃ a1, a1 = ga g := ⟨_, rfl⟩
              obtain ⟨n1, hn1⟩ : ∃ n1, n1 = gn g := ⟨_, rfl⟩
              rw [← ha1] at HI hcg1
              rw [← hn1] at HI HZ hcg1 hgl HPg
              have Hn1 := hide hn1
              have Ha1 := hide ha1
              have Hsp := hide hsp
              have Hfn := hide hfn
              clear hG hcg hsp hfn hn1 ha1
              go_wp2_with fail
              go_loopw [19, 81] (fun v t w2 => ∃ k : Nat, k ≤ n1 ∧ t = .int .i64 k ∧ w2.ownsRow wg.heap.size 5 1 v (pieceTo (L s) (E s) (z g) k).length (Lib.byteCells (pieceTo (L s) (E s) (z g) k)) ∧ Below wg.heap.size wg w2) (fun _ t _ => n1 - (intOf t).toNat)
              case atStart => exact ⟨0, by omega, rfl, World.ownsRow_nil _ _ _ _, Below.refl _ _⟩
              case round =>
                obtain ⟨k, hk, rfl, hown, hbel⟩ := hrel
                by_cases hltk : k < n1
                · obtain ⟨bi, offi, hai, _, hci⟩ := HI.out.addr (by omega)
                  subst hai
                  have hbB : B ≤ wg.heap.size := by have := Hsp.out.size; omega
                  have hck : wr.cell? ⟨bi, offi + k, none⟩ = some (.int .i64 (z g k)) := (HI.out.below (hbel.mono hbB)).addr' hltk
                  have hzk := HZ.out k hltk
                  have hve := HE.out s hls
                  have hbd2 := valEnds_bounds hve (z g k) hzk.1 hzk.2
                  have hG := HG.out.below (hbel.mono hbB)
                  have hby := hG.bytes s hlt
                  obtain ⟨bb, offb, hda, _, hcb⟩ := hby.1.addr (by omega)
                  have hcd1 : wr.cell? ⟨bd, offd + s, none⟩ = some (.slice (some ⟨bb, offb, none⟩) (L s).length (dc s)) := by
                    rw [← hda]; exact hG.data.addr' hlt
                  have hPk := HPg.out (k + 1) (by omega)
                  rw [pieceTo_succ, List.length_append, List.length_drop, List.length_take] at hPk
                  have hsucc := pieceTo_succ (L s) (E s) (z g) k
                  have hgv := (Hfn.out.grow hbel).gives (HG.out.wd0 s hlt).2 hrows
                  have hlen1 : (L s).length ≤ dc s := hby.2.1
                  have hlen2 : (L s).length ≤ 4398046511104 := hby.2.2
                  obtain ⟨zz, hzz⟩ : ∃ zz, zz = z g k := ⟨_, rfl⟩
                  obtain ⟨l, hl⟩ : ∃ l, l = L s := ⟨_, rfl⟩
                  obtain ⟨lo, hlo⟩ : ∃ lo, lo = endAt (E s) (zz - 1) := ⟨_, rfl⟩
                  obtain ⟨hi, hhi⟩ : ∃ hi, hi = endAt (E s) zz := ⟨_, rfl⟩
                  rw [← hzz] at hck hzk hbd2 hPk hsucc
                  rw [← hl] at hbd2 hPk hsucc hcb hcd1 hlen1 hlen2 hown
                  rw [← hlo, ← hhi] at hbd2 hPk hsucc
                  obtain ⟨hz0, hz1⟩ := hzk
                  obtain ⟨hlh, hhl⟩ := hbd2
                  rw [Nat.min_eq_left hhl] at hPk
                  have Hl := hide hl
                  have Hzz := hide hzz
                  have Hsucc := hide hsucc
                  have Hown := hide hown
                  have Hbel := hide hbel
                  have Hcb := hide hcb
                  obtain ⟨pl, hpl⟩ : ∃ pl, pl = pieceTo l (E s) (z g) k := ⟨_, rfl⟩
                  rw [← hpl] at Hown Hsucc hPk
                  have Hpl := hide hpl
                  have hgd : ∃ bf, (fv = .func (.func 21) #[] #[.pointer (some ⟨bf, 0, none⟩)] ∧ Hid (∀ W : World, (∀ a, W.cell? a = wr.cell? a) → Calls Tryf.prog 21 #[.int .i64 (zz - 1), .pointer (some ⟨bf, 0, none⟩)] W fun e w' => e = .returned (.int .i64 (lo : Int)) ∧ w' = W) ∧ Hid (∀ W : World, (∀ a, W.cell? a = wr.cell? a) → Calls Tryf.prog 21 #[.int .i64 zz, .pointer (some ⟨bf, 0, none⟩)] W fun e w' => e = .returned (.int .i64 (hi : Int)) ∧ w' = W)) ∨
                      (fv = .func (.func 23) #[] #[.pointer (some ⟨bf, 0, none⟩)] ∧ Hid (∀ W : World, (∀ a, W.cell? a = wr.cell? a) → Calls Tryf.prog 23 #[.int .i64 (zz - 1), .pointer (some ⟨bf, 0, none⟩)] W fun e w' => e = .returned (.int .i64 (lo : Int)) ∧ w' = W) ∧ Hid (∀ W : World, (∀ a, W.cell? a = wr.cell? a) → Calls Tryf.prog 23 #[.int .i64 zz, .pointer (some ⟨bf, 0, none⟩)] W fun e w' => e = .returned (.int .i64 (hi : Int)) ∧ w' = W)) := by
                    rw [hlo, hhi]
                    rcases hgv with ⟨bf, hfv, hgv⟩ | ⟨bf, hfv, hgv⟩
                    · exact ⟨bf, .inl ⟨hfv, hgv (zz - 1) (by omega) (by omega), hgv zz (by omega) hz1⟩⟩
                    · exact ⟨bf, .inr ⟨hfv, hgv (zz - 1) (by omega) (by omega), hgv zz (by omega) hz1⟩⟩
                  clear hgv hve hG hby hda hcb hsucc hown hbel hpl hl hlo hhi hci hzz
                  obtain ⟨i0, hi0, hz0', hz1', hz2'⟩ := info_parts info5
                  have hbd' : (⟨bd, offd + s, none⟩ : Addr).block < wg.heap.size := by show bd < _; omega
                  obtain ⟨z1, hz1e⟩ : ∃ z1, z1 = zz - 1 := ⟨_, rfl⟩
                  have hwz : IntKind.i64.wrap (zz - 1) = z1 := by rw [IntKind.wrap_i64]; omega
                  rw [← hz1e] at hgd
                  clear hz1e
                  have hx1 : (0 : Int) ≤ (lo : Int) := by omega
                  have hx2 : (lo : Int) ≤ (hi : Int) := by omega
                  have hx3 : (hi : Int) ≤ (dc s : Int) := by omega
                  have hx4 : (lo : Int) < (dc s : Int) := by omega
                  obtain ⟨bf, ⟨hfv, Hc1, Hc2⟩ | ⟨hfv, Hc1, Hc2⟩⟩ := hgd
                  · subst hfv
                    go_wp2_with fail
                    go_region_held3 (fun w' => w'.cell? ⟨bd, offd + s, none⟩ = some (.slice (some ⟨bb, offb, none⟩) l.length (dc s))) (go_keep)
                      (first
                        | (go_at_call_of 21 (Value.int IntKind.i64 z1); refine (Hc1.out _ ?_).mono ?_; (intro a; rfl); rintro e w' ⟨rfl, rfl⟩)
                        | (go_at_call_of 21 (Value.int IntKind.i64 zz); refine (Hc2.out _ ?_).mono ?_; (intro a; rfl); rintro e w' ⟨rfl, rfl⟩)
                        | (show (if Region.wanted { dst := some 98, op := _, type := _, pos := _, after := _, guard := _ } _ = true then _ else _); refine step_append_lies _ ?a1 (.tmp 85) (.tmp 97) 26 ?a2 wg.heap.size 5 i0 (.int .u8 0) 1 1 Tryf.underlying26 hi0 hz0' hz1' hz2' ?a3 ?a4 u19 pl.length (Lib.byteCells pl) ?a5 ?a6 ⟨bb, offb + lo, none⟩ (hi - lo) (dc s - lo) (Lib.byteCells ((l.take hi).drop lo)) ?a7 ?a8 ?a9 ?a10 ?a11 ?a12 ?a13 ?a14 wr.heap.size ?a15 ?a16; (case a2 => rfl); (case a1 => rfl); (case a3 => rfl); (case a4 => omega); (case a5 => rfl); (case a6 => exact Hown.out); (case a7 => first | (go_simp; done) | (go_simp; omega)); (case a8 => first | (simp [Lib.byteCells]; done) | (simp [Lib.byteCells]; omega)); (case a9 => exact news_at Hcb.out hhl); (case a10 => exact bytes_one _); (case a11 => omega); (case a12 => unfold maxLen; omega); (case a13 => omega); (case a14 => exact Hbel.out.size); (case a15 => rfl); intro gg cap w1 hown1 hgrow hat hlt1; have HBw := hide (below_grown2 Hown.out hgrow rfl Hbel.out.size); have hS1 := (HBw.out.cell (p := ⟨bd, offd + s, none⟩) hbd').trans hcd1; have Hown1 := hide hown1; clear hown1 hgrow hat hlt1))
                    go_wp2
                    go_roundw
                    case rel => exact ⟨k + 1, by omega, by go_num, own_step Hown1.out (by rw [← Hl.out]; exact Hsucc.out) (by simp; omega), Hbel.out.trans HBw.out⟩
                    case measure => simp [intOf]; omega
                  · subst hfv
                    go_wp2_with fail
                    go_region_held3 (fun w' => w'.cell? ⟨bd, offd + s, none⟩ = some (.slice (some ⟨bb, offb, none⟩) l.length (dc s))) (go_keep)
                      (first
                        | (go_at_call_of 23 (Value.int IntKind.i64 z1); refine (Hc1.out _ ?_).mono ?_; (intro a; rfl); rintro e w' ⟨rfl, rfl⟩)
                        | (go_at_call_of 23 (Value.int IntKind.i64 zz); refine (Hc2.out _ ?_).mono ?_; (intro a; rfl); rintro e w' ⟨rfl, rfl⟩)
                        | (show (if Region.wanted { dst := some 98, op := _, type := _, pos := _, after := _, guard := _ } _ = true then _ else _); refine step_append_lies _ ?b1 (.tmp 85) (.tmp 97) 26 ?b2 wg.heap.size 5 i0 (.int .u8 0) 1 1 Tryf.underlying26 hi0 hz0' hz1' hz2' ?b3 ?b4 u19 pl.length (Lib.byteCells pl) ?b5 ?b6 ⟨bb, offb + lo, none⟩ (hi - lo) (dc s - lo) (Lib.byteCells ((l.take hi).drop lo)) ?b7 ?b8 ?b9 ?b10 ?b11 ?b12 ?b13 ?b14 wr.heap.size ?b15 ?b16; (case b2 => rfl); (case b1 => rfl); (case b3 => rfl); (case b4 => omega); (case b5 => rfl); (case b6 => exact Hown.out); (case b7 => first | (go_simp; done) | (go_simp; omega)); (case b8 => first | (simp [Lib.byteCells]; done) | (simp [Lib.byteCells]; omega)); (case b9 => exact news_at Hcb.out hhl); (case b10 => exact bytes_one _); (case b11 => omega); (case b12 => unfold maxLen; omega); (case b13 => omega); (case b14 => exact Hbel.out.size); (case b15 => rfl); intro gg cap w1 hown1 hgrow hat hlt1; have HBw := hide (below_grown2 Hown.out hgrow rfl Hbel.out.size); have hS1 := (HBw.out.cell (p := ⟨bd, offd + s, none⟩) hbd').trans hcd1; have Hown1 := hide hown1; clear hown1 hgrow hat hlt1))
                    go_wp2
                    go_roundw
                    case rel => exact ⟨k + 1, by omega, by go_num, own_step Hown1.out (by rw [← Hl.out]; exact Hsucc.out) (by simp; omega), Hbel.out.trans HBw.out⟩
                    case measure => simp [intOf]; omega
                · obtain rfl : n1 = k := by omega
                  have hspw := Hsp.out.grow hbel
                  have hfnw := Hfn.out.grow hbel
                  have hn1 := Hn1.out
                  subst hn1
                  obtain ⟨av, cv, hv, hlc, hOwn⟩ := own_of_row hown (Hsp.out.size)
                  subst hv
                  have hr1 := hspw.rows g hltg
                  obtain ⟨v0, hv0⟩ := hspw.there g s hltg hlt
                  have hf0 := hspw.open_ g s hltg hlt
                  have HS2 := hide (hspw.store hltg hlt hlc hOwn (fun g' s' => s' < s ∨ (s' = s ∧ g' < g + 1)) (by intro g' s' h; omega))
                  have HF2 := hide (hfnw.store (g := w0.heap.size + 1 + g) (s := s) (by omega) (.slice av (pieceTo (L s) (E s) (z g) (gn g)).length cv))
                  clear hspw hfnw hown hbel hOwn
                  generalize (pieceTo (L s) (E s) (z g) (gn g)).length = plen at HS2 HF2 hlc
                  go_wp2
                  go_roundw
                  case rel => exact ⟨g + 1, by omega, by go_num, HS2.out, HF2.out⟩
                  case measure => simp [intOf]; omega
            · obtain rfl : ng = g := by omega
              have HS2 := hide (hsp.weaken (P' := fun _ s' => s' < s + 1) (fun g' s' hg' _ h => by omega))
              clear hsp hfn
              go_wp2
              go_roundw
              case rel => exact ⟨s + 1, by omega, by go_num, HS2.out⟩
              case measure => simp [intOf]; omega
        · obtain rfl : s = sf := by omega
          have hlt : s < nd := hsf
          have hG := H.out.below (hsp.below.mono hB)
          obtain ⟨bw, offw, haw, _, hcw⟩ := hG.widths.addr (by omega)
          subst haw
          obtain ⟨bd, offd, had, hbd, hcd⟩ := hG.data.addr (by omega)
          subst had
          have hcw1 := hcw s hlt
          have hcd1 := hcd s hlt
          have Hb := hide (hG.bytes s hlt)
          have hBs : B ≤ wr.heap.size := by have := hsp.size; omega
          have hFr : F.answers wr.tape := by rw [hsp.below.tape]; exact hF.out
          have Hends := hide (ends18_bad F B (da s) (L s).length (dc s) rows (wd s) (L s) wr hFr rfl Hb.out.2.2 Hb.out.2.1 hrows (hG.wd0 s hlt) hBs Hb.out.1 Hbad.out)
          have Hsp := hide hsp
          have hbt : bt < B := hG.btlt
          clear hG hcw hcd hsp hFr
          go_wp2_with fail
          refine Hends.out.mono ?_
          rintro e w1 ⟨ae, se, rfl, hse, hb1⟩
          have hb01 : Below w0.heap.size w0 w1 := Hsp.out.below.trans (hb1.mono Hsp.out.below.size)
          have hF1 := hide (show F.answers w1.tape by rw [hb01.tape]; exact hF.out)
          have hd1 := hide ((hb01.cell (p := ⟨bt, 0, none⟩) (show bt < w0.heap.size by omega)).trans Hdb.out)
          have hn1 := hide ((hb01.cell (p := ⟨bt, 1, none⟩) (show bt < w0.heap.size by omega)).trans Hnm.out)
          have hae := World.block_lt_of_cell? _ _ hse
          have hbw1 : bt < w1.heap.size := by have := hb01.size; omega
          have Hse := hide hse
          have Hb01 := hide hb01
          clear Hends Hsp hse hb1 hb01 hcw1 hcd1
          go_wp2_with (go_at_call 19; refine (errTable F s bt db nm ae se _ _ (by exact hF1.out) ?e0 ?e1 hd hn ?e2 ?e3 ?e4 ?e5 ?e6 ?e7).mono ?_)
          case e0 => exact (World.cell?_alloc_past _ _ _ (show bt < w1.heap.size from hbw1)).trans hd1.out
          case e1 => exact (World.cell?_alloc_past _ _ _ (show bt < w1.heap.size from hbw1)).trans hn1.out
          case e2 => simp
          case e3 => rw [World.size_alloc]; omega
          case e4 => exact (World.cell?_of_block (a := ae) (Below.heap_alloc _ _ _ hae)).trans Hse.out
          case e5 => go_simp
          case e6 => go_simp
          case e7 => go_simp
          rintro e w2 ⟨ty, ad2, rfl, hb2⟩
          have Hb2 := hide hb2
          clear hb2
          go_wp2
          go_ret2
          exact ⟨ty, ad2, rfl, (Hb01.out.alloc Hb01.out.size _).trans (Hb2.out.mono (by rw [World.size_alloc]; exact Nat.le_succ_of_le Hb01.out.size))⟩

set_option maxHeartbeats 2000000 in
/-- checkStrings (function 17) where the table has more widths, or fewer. -/
theorem check17_bad (F : Interp) (db nm : ByteArray) (bt : Nat) (aw ad : Option Addr) (nw nd cw cd : Nat) (w : World) (hF : F.answers w.tape) (hc : w.cell? ⟨bt, 4, none⟩ = some (.slice aw nw cw)) (h0 : w.cell? ⟨bt, 0, none⟩ = some (.string db)) (h1 : w.cell? ⟨bt, 1, none⟩ = some (.string nm)) (hd : db.size ≤ 1048576) (hn : nm.size ≤ 1048576) (hne : nd ≠ nw) :
    Calls Tryf.prog 17 #[.pointer (some ⟨bt, 0, none⟩), .slice ad nd cd] w (Erred w) := by
  have hbt := World.block_lt_of_cell? _ _ hc
  have hne' : ((nd : Int) != (nw : Int)) = true := by simp; omega
  have H0 := hide h0
  have H1 := hide h1
  clear h0 h1
  go_enter Tryf.func17, Tryf.ntmps17
  go_wp2_with (go_at_call 19; refine (errRows F nd nw bt db nm _ _ (by exact hF) ?e0 ?e1 hd hn ?e2 ?e5 ?e6 ?e7).mono ?_)
  case e0 => exact H0.out
  case e1 => exact H1.out
  all_goals first | (simp; done) | (go_simp; done) | skip
  rintro e w2 ⟨ty, ad2, rfl, hb2⟩
  have Hb2 := hide hb2
  clear hb2
  go_wp2
  go_ret
  exact ⟨ty, ad2, rfl, ((Below.refl _ _).alloc (Nat.le_refl _) _).trans (Hb2.out.mono (by simp))⟩

set_option maxHeartbeats 2000000 in
theorem split10_len (F : Interp) (db nm : ByteArray) (bt : Nat) (aw ad : Option Addr) (nw nd cw cd : Nat) (ag : Option Addr) (ng cg rows : Nat) (w : World) (hF : F.answers w.tape) (hc : w.cell? ⟨bt, 4, none⟩ = some (.slice aw nw cw)) (h0 : w.cell? ⟨bt, 0, none⟩ = some (.string db)) (h1 : w.cell? ⟨bt, 1, none⟩ = some (.string nm)) (hd : db.size ≤ 1048576) (hn : nm.size ≤ 1048576) (hne : nd ≠ nw) :
    Calls Tryf.prog 10 #[.pointer (some ⟨bt, 0, none⟩), .int .i64 rows, .slice ad nd cd, .slice ag ng cg] w (SplitBad w) := by
  have Hc := hide (check17_bad F db nm bt aw ad nw nd cw cd w hF hc h0 h1 hd hn hne)
  clear hc h0 h1
  go_enter Tryf.func10, Tryf.ntmps10
  go_wp2_with (go_at_call 17; refine Hc.out.mono ?_; rintro e w2 ⟨ty, ad2, rfl, hb2⟩; have Hb2 := hide hb2; clear hb2)
  go_ret2
  exact ⟨ty, ad2, rfl, Hb2.out⟩
end Go.Proofs.Qxb6615609aFmt
