/-
  The law 'FnSplitRowsRegroupsTextsThatAppendTextWrote' (function 4), walked: true; nothing that was there has turned.
-/
import Derived.Test.Qxb6615609aFmtGuard
namespace Go.Proofs.Qxb6615609aFmt
open Go.RowKit

/-- The law's end: true, nothing that was there has turned. -/
def Held (w : World) (e : Ending) (w' : World) : Prop := e = .returned (.bool true) ∧ Below w.heap.size w w'

/-- What SplitRows is handed there. -/
theorem given4 {w ws wt : World} {a : Option Addr} {nt : Nat} {T : Nat → ByteArray} {ag : Option Addr} {ng : Nat} {ga : Nat → Option Addr} {gn gc : Nat → Nat} {z : Nat → Nat → Int} {av : Option Addr} {cv ls : Nat} {e : Ending}
    (H : Args4 w.heap.size w a nt T ag ng ga gn gc z) (hbel : Below w.heap.size w ws) (hOwn : Own w.heap.size ws av (stream T nt)) (hls : ls = (stream T nt).length) (hlc : ls ≤ cv) (hlen : ls ≤ 4398046511104)
    (ht : TabW (.slice (some ⟨ws.heap.size, 0, none⟩) 1 1) (ws.alloc (.cells #[.int .i64 0] 3)) e wt) (HN : ∀ g, g < ng → gn g ≤ 131072) (HZ : ∀ j, j < ng → ∀ i, i < gn j → 0 ≤ z j i ∧ z j i < nt) :
    Given (wt.heap.size + 1) (wt.alloc (.cells #[.slice av ls cv] 26)) (ws.heap.size + 1) (some ⟨ws.heap.size, 0, none⟩) 1 1 (fun _ => 0) (some ⟨wt.heap.size, 0, none⟩) (fun _ => av) (fun _ => cv) (fun _ => stream T nt) ag ng ga gn gc z nt := by
  obtain ⟨_, hb, hsz, htc⟩ := ht
  simp only [World.size_alloc] at hb hsz htc
  have hba : Below ws.heap.size ws (ws.alloc (.cells #[.int .i64 0] 3)) := (Below.refl _ _).alloc (Nat.le_refl _) _
  have hbt : Below ws.heap.size ws wt := hba.trans (hb.mono (by omega))
  have hbl : Below wt.heap.size wt (wt.alloc (.cells #[.slice av ls cv] 26)) := (Below.refl _ _).alloc (Nat.le_refl _) _
  have hbw : Below w.heap.size w (wt.alloc (.cells #[.slice av ls cv] 26)) := hbel.trans ((hbt.mono hbel.size).trans (hbl.mono (by have := hbel.size; omega)))
  have hws := hbel.size
  refine ⟨by omega, (hbl.cell (p := ⟨ws.heap.size + 1, 4, none⟩) (by show ws.heap.size + 1 < _; omega)).trans htc, ?_, fun _ _ => by omega, ?_, fun _ _ => ⟨?_, by omega, by omega⟩, (H.groups.below hbw).mono (by omega), fun g hg => ((H.ints g hg).below hbw).mono (by omega), fun g i hg hi => HZ g hg i hi, HN⟩
  · intro i hi
    obtain rfl : i = 0 := by omega
    refine ⟨ws.heap.size, 0, rfl, by omega, ?_⟩
    rw [hbl.cell (p := ⟨ws.heap.size, 0 + 0, none⟩) (by show ws.heap.size < _; omega), hb.cell (p := ⟨ws.heap.size, 0 + 0, none⟩) (by show ws.heap.size < _; omega), World.cell?_alloc_new]
    rfl
  · intro i hi
    obtain rfl : i = 0 := by omega
    refine ⟨wt.heap.size, 0, rfl, by omega, ?_⟩
    rw [World.cell?_alloc_new, hls]
    rfl
  · intro i hi
    obtain ⟨b, hb1, hb2, hb3, hb4⟩ := hOwn i hi
    refine ⟨b, 0, hb1, by omega, ?_⟩
    rw [Nat.zero_add, hbl.cell (p := ⟨b, i, none⟩) (by show b < _; omega), hbt.cell (p := ⟨b, i, none⟩) hb3]
    exact hb4

set_option maxRecDepth 100000 in
set_option maxHeartbeats 16000000 in
theorem law4 (w : World) (db nm : ByteArray) (a : Option Addr) (nt ct : Nat) (T : Nat → ByteArray) (ag : Option Addr) (ng cg : Nat) (ga : Nat → Option Addr) (gn gc : Nat → Nat) (z : Nat → Nat → Int)
    (H : Hid (Args4 w.heap.size w a nt T ag ng ga gn gc z)) (hdb : db.size ≤ 9223372036854775807) (hnm : nm.size ≤ 9223372036854775807) (hnt : nt ≤ 9223372036854775807) (hng : ng ≤ 9223372036854775807) :
    Calls Tryf.prog 4 #[.string db, .string nm, .slice a nt ct, .slice ag ng cg] w (Held w) := by
  have Hg := hide (guard12 w.heap.size w db nm a nt ct T ag ng cg ga gn gc z H hdb hnm hnt hng)
  go_enter Tryf.func4, Tryf.ntmps4
  go_wp2_with fail
  refine Hg.out.mono ?_
  rintro e w' ⟨⟨g, rfl⟩, rfl⟩
  clear Hg
  cases g
  · go_wp2
    go_ret
    exact ⟨rfl, Below.refl _ _⟩
  go_wp2
  all_goals try (go_ret; exact ⟨rfl, Below.refl _ _⟩)
  go_loop [9, 10] (fun q t => ∃ k : Nat, k ≤ nt ∧ t = .int .i64 k ∧ (∃ x : Int, q = .int .i64 x ∧ 0 ≤ x ∧ x ≤ 1048576) ∧ ∀ j, j < k → (T j).size ≤ 1048576) (fun _ t => nt - (intOf t).toNat)
  case atStart => exact ⟨0, by omega, rfl, ⟨_, rfl, by omega, by omega⟩, by intro j hj; omega⟩
  case round =>
    obtain ⟨k, hk, rfl, ⟨x, rfl, hx0, hx1⟩, hT⟩ := hrel
    have HT := hide hT
    clear hT
    by_cases hlt : k < nt
    · obtain ⟨b, off, ha, _, hc⟩ := H.out.texts.addr (by omega)
      subst ha
      have hck := hc k hlt
      have hsz := H.out.tsize k hlt
      clear hc
      go_wp2
      all_goals try (go_ret; exact ⟨rfl, Below.refl _ _⟩)
      go_round
      case rel => exact ⟨k + 1, by omega, by go_num, ⟨_, rfl, by omega, by omega⟩, by intro j hj; by_cases e : j = k; (subst e; omega); exact HT.out j (by omega)⟩
      case measure => simp [intOf]; omega
    · obtain rfl : nt = k := by omega
      clear hk hlt
      go_wp2
      all_goals try (go_ret; exact ⟨rfl, Below.refl _ _⟩)
      go_loop [9, 11] (fun q t => ∃ k : Nat, k ≤ ng ∧ t = .int .i64 k ∧ (∃ x : Int, q = .int .i64 x ∧ 0 ≤ x ∧ x ≤ 1048576) ∧ ∀ j, j < k → gn j ≤ 131072) (fun _ t => ng - (intOf t).toNat)
      case atStart => exact ⟨0, by omega, rfl, ⟨_, rfl, by omega, by omega⟩, by intro j hj; omega⟩
      case round =>
        obtain ⟨k, hk, rfl, ⟨y, rfl, hy0, hy1⟩, hN⟩ := hrel
        have HN := hide hN
        clear hN
        by_cases hlt : k < ng
        · obtain ⟨b, off, ha, _, hc⟩ := H.out.groups.addr (by omega)
          subst ha
          have hck := hc k hlt
          have hsz := H.out.gsize k hlt
          clear hc
          go_wp2
          all_goals try (go_ret; exact ⟨rfl, Below.refl _ _⟩)
          go_round
          case rel => exact ⟨k + 1, by omega, by go_num, ⟨_, rfl, by omega, by omega⟩, by intro j hj; by_cases e : j = k; (subst e; omega); exact HN.out j (by omega)⟩
          case measure => simp [intOf]; omega
        · obtain rfl : ng = k := by omega
          clear hk hlt hx0 hx1 hy0 hy1
          go_wp2
          go_loop [12] (fun t => ∃ k : Nat, k ≤ ng ∧ t = .int .i64 k ∧ ∀ j, j < k → ∀ i, i < gn j → 0 ≤ z j i ∧ z j i < nt) (fun t => ng - (intOf t).toNat)
          case atStart => exact ⟨0, by omega, rfl, by intro j hj; omega⟩
          case round =>
            obtain ⟨g, hg, rfl, hZ⟩ := hrel
            have HZ := hide hZ
            clear hZ
            by_cases hlt : g < ng
            · obtain ⟨b, off, ha, _, hc⟩ := H.out.groups.addr (by omega)
              subst ha
              have hck := hc g hlt
              have hsz := HN.out g hlt
              have HI := hide (H.out.ints g hlt)
              obtain ⟨a1, ha1⟩ : ∃ a1, a1 = ga g := ⟨_, rfl⟩
              obtain ⟨n1, hn1⟩ : ∃ n1, n1 = gn g := ⟨_, rfl⟩
              rw [← ha1] at HI hck
              rw [← hn1] at HI hck hsz
              have Hn1 := hide hn1
              clear hc hn1 ha1
              go_wp2
              go_loop [13] (fun t => ∃ k : Nat, k ≤ n1 ∧ t = .int .i64 k ∧ ∀ i, i < k → 0 ≤ z g i ∧ z g i < nt) (fun t => n1 - (intOf t).toNat)
              case atStart => exact ⟨0, by omega, rfl, by intro j hj; omega⟩
              case round =>
                obtain ⟨k, hk, rfl, hZ⟩ := hrel
                have HZ1 := hide hZ
                clear hZ
                by_cases hltk : k < n1
                · obtain ⟨bi, offi, hai, _, hci⟩ := HI.out.addr (by omega)
                  subst hai
                  have hcz := hci k hltk
                  obtain ⟨zz, hzz⟩ : ∃ zz, zz = z g k := ⟨_, rfl⟩
                  rw [← hzz] at hcz
                  have Hzz := hide hzz
                  clear hci hzz
                  by_cases hz0 : zz < 0
                  · go_wp2
                    go_ret
                    exact ⟨rfl, Below.refl _ _⟩
                  by_cases hz1 : (nt : Int) ≤ zz
                  · go_wp2
                    go_ret
                    exact ⟨rfl, Below.refl _ _⟩
                  go_wp2
                  go_round
                  case rel => exact ⟨k + 1, by omega, by go_num, by intro i hi; by_cases e : i = k; (subst e; rw [← Hzz.out]; omega); exact HZ1.out i (by omega)⟩
                  case measure => simp [intOf]; omega
                · obtain rfl : n1 = k := by omega
                  go_wp2
                  go_round
                  case rel => exact ⟨g + 1, by omega, by go_num, by intro j hj; by_cases e : j = g; (subst e; rw [← Hn1.out]; exact HZ1.out); exact HZ.out j (by omega)⟩
                  case measure => simp [intOf]; omega
            · obtain rfl : ng = g := by omega
              clear hg hlt
              go_wp2
              go_loop [14, 15] (fun q t => ∃ k : Nat, k ≤ ng ∧ t = .int .i64 k ∧ ∃ y : Int, q = .int .i64 y ∧ 0 ≤ y ∧ y ≤ 4194304) (fun _ t => ng - (intOf t).toNat)
              case atStart => exact ⟨0, by omega, rfl, _, rfl, by omega, by omega⟩
              case round =>
                obtain ⟨g, hg, rfl, y, rfl, hy0, hy1⟩ := hrel
                by_cases hlt : g < ng
                · obtain ⟨b, off, ha, _, hc⟩ := H.out.groups.addr (by omega)
                  subst ha
                  have hck := hc g hlt
                  have hsz := HN.out g hlt
                  have HI := hide (H.out.ints g hlt)
                  have HZg := hide (HZ.out g hlt)
                  obtain ⟨a1, ha1⟩ : ∃ a1, a1 = ga g := ⟨_, rfl⟩
                  obtain ⟨n1, hn1⟩ : ∃ n1, n1 = gn g := ⟨_, rfl⟩
                  rw [← ha1] at HI hck
                  rw [← hn1] at HI hck hsz HZg
                  clear hc hn1 ha1
                  go_wp2
                  go_loop [14, 16] (fun q t => ∃ k : Nat, k ≤ n1 ∧ t = .int .i64 k ∧ ∃ y : Int, q = .int .i64 y ∧ 0 ≤ y ∧ y ≤ 4194304) (fun _ t => n1 - (intOf t).toNat)
                  case atStart => exact ⟨0, by omega, rfl, _, rfl, by omega, by omega⟩
                  case round =>
                    obtain ⟨k, hk, rfl, y1, rfl, hy2, hy3⟩ := hrel
                    by_cases hltk : k < n1
                    · obtain ⟨bi, offi, hai, _, hci⟩ := HI.out.addr (by omega)
                      subst hai
                      have hcz := hci k hltk
                      obtain ⟨hz0, hz1⟩ := HZg.out k hltk
                      obtain ⟨j, hj⟩ := Int.eq_ofNat_of_zero_le hz0
                      rw [hj] at hcz hz1
                      have hjn : j < nt := by omega
                      obtain ⟨bt, offt, hat, _, hct⟩ := H.out.texts.addr (by omega)
                      subst hat
                      have hcj := hct j hjn
                      have hszj := HT.out j hjn
                      clear hci hj hct hz0 hz1
                      go_wp2
                      all_goals try (go_ret; exact ⟨rfl, Below.refl _ _⟩)
                      go_round
                      case rel => exact ⟨k + 1, by omega, by go_num, _, rfl, by omega, by omega⟩
                      case measure => simp [intOf]; omega
                    · go_wp2
                      go_round
                      case rel => exact ⟨g + 1, by omega, by go_num, _, rfl, by omega, by omega⟩
                      case measure => simp [intOf]; omega
                · obtain rfl : ng = g := by omega
                  clear hg hlt hy0 hy1
                  go_wp2
                  go_loopw [17, 18] (fun v t wr => ∃ k : Nat, k ≤ nt ∧ t = .int .i64 k ∧ wr.ownsRow w'.heap.size 5 1 v (stream T k).length (Lib.byteCells (stream T k)) ∧ Below w'.heap.size w' wr) (fun _ t _ => nt - (intOf t).toNat)
                  case atStart => exact ⟨0, by omega, rfl, World.ownsRow_nil _ _ _ _, Below.refl _ _⟩
                  case round =>
                    obtain ⟨k, hk, rfl, hown, hbel⟩ := hrel
                    have hsl := stream_le T k (fun i hi => HT.out i (by omega))
                    by_cases hlt : k < nt
                    · obtain ⟨bt, offt, hat, _, hct⟩ := (H.out.texts.below hbel).addr (by omega)
                      subst hat
                      have hcj := hct k hlt
                      have Hc := hide (text13 w'.heap.size u17 (stream T k) (T k) wr (HT.out k hlt) (by omega) hbel.size hown)
                      have Hbel := hide hbel
                      clear hct hown hbel hsl
                      go_wp2_with fail
                      refine Hc.out.mono ?_
                      rintro e w1 ⟨v1, rfl, hown1, hb1⟩
                      have Hown1 := hide hown1
                      have Hb1 := hide (Hbel.out.trans hb1)
                      clear hown1 hb1 Hc
                      go_wp2
                      go_roundw
                      case rel => exact ⟨k + 1, by omega, by go_num, by rw [stream_succ]; exact Hown1.out, Hb1.out⟩
                      case measure => simp [intOf]; omega
                    · obtain rfl : nt = k := by omega
                      obtain ⟨av, cv, hv, hlc, hOwn⟩ := own_of_row hown (Nat.le_refl _)
                      subst hv
                      have HOwn := hide hOwn
                      have Hbel := hide hbel
                      obtain ⟨ls, hls⟩ : ∃ ls, ls = (stream T nt).length := ⟨_, rfl⟩
                      rw [← hls] at hlc hsl
                      clear hown hbel hOwn hk hlt
                      have Hls := hide hls
                      rw [← hls]
                      clear hls
                      obtain ⟨ws, hws⟩ : ∃ x, x = wr := ⟨_, rfl⟩
                      subst hws
                      go_wp2_with fail
                      refine (table9 db nm (some ⟨ws.heap.size, 0, none⟩) 1 1 _).mono ?_
                      rintro e wt ht
                      have hG := given4 H.out Hbel.out HOwn.out Hls.out hlc (by omega) ht HN.out HZ.out
                      have he := ht.1
                      simp only [World.size_alloc] at he
                      subst he
                      have hbt0 := ht.2.1
                      have hst0 := ht.2.2.1
                      simp only [World.size_alloc] at hbt0 hst0
                      have hwt : ws.heap.size < wt.heap.size := by omega
                      have HbW : Hid (Below w'.heap.size w' wt) := Hbel.out.trans ((((Below.refl _ _).alloc Hbel.out.size _)).trans (hbt0.mono (by have := Hbel.out.size; omega)))
                      have HE : Hid (∀ s, s < 1 → valEnds ((fun _ => stream T nt) s) nt ((fun _ => (0 : Int)) s) = some ((fun _ => textEnds T nt) s)) := fun _ _ => text_ends T nt HT.out
                      have HP : Hid (∀ g s k, g < ng → s < 1 → k ≤ gn g → (pieceTo ((fun _ => stream T nt) s) ((fun _ => textEnds T nt) s) (z g) k).length ≤ 1099511627776) := by
                        intro g s k hg _ hk
                        show (pieceTo (stream T nt) (textEnds T nt) (z g) k).length ≤ _
                        rw [piece_text T nt (z g) k (fun i hi => HZ.out g hg i (by omega))]
                        have h1 := stream_le (fun i => T (z g i).toNat) k (fun i hi => by have := HZ.out g hg i (by omega); exact HT.out _ (by omega))
                        have h2 := HN.out g hg
                        omega
                      have Hsp := hide (split10 (wt.heap.size + 1) (wt.alloc (.cells #[.slice av ls cv] 26)) (ws.heap.size + 1) (some ⟨ws.heap.size, 0, none⟩) 1 1 (fun _ => 0) (some ⟨wt.heap.size, 0, none⟩) 1 (fun _ => av) (fun _ => cv) (fun _ => stream T nt) ag ng cg ga gn gc z nt (fun _ => textEnds T nt) hG (by simp) (by omega) (by omega) (by omega) HE HP)
                      clear hG ht hbt0 hst0 HE HP
                      go_wp2_with fail
                      refine Hsp.out.mono ?_
                      rintro e w5 ⟨rfl, hs5⟩
                      simp only [World.size_alloc] at hs5
                      have HB5 : Hid (Below w'.heap.size w' w5) := HbW.out.trans (((Below.refl _ _).alloc (by have := HbW.out.size; omega) _).trans (hs5.below.mono (by have := HbW.out.size; omega)))
                      have HS5 := hide hs5
                      have HX5 := hide (H.out.texts.below HB5.out)
                      have HY5 := hide (H.out.groups.below HB5.out)
                      have HI5 := hide (fun g hg => (H.out.ints g hg).below HB5.out)
                      clear hs5 Hsp HbW Hbel HOwn
                      go_wp2
                      go_loopw [22] (fun t wr => ∃ g : Nat, g ≤ ng ∧ t = .int .i64 g ∧ ∃ m, wr = w5.drewN m) (fun t _ => ng - (intOf t).toNat)
                      case atStart => exact ⟨0, by omega, rfl, 0, rfl⟩
                      case round =>
                        obtain ⟨g, hg, rfl, m, rfl⟩ := hrel
                        by_cases hlt : g < ng
                        · obtain ⟨b, off, ha, _, hc⟩ := HY5.out.addr (by omega)
                          subst ha
                          have hck := hc g hlt
                          have hsz := HN.out g hlt
                          have HI := hide (HI5.out g hlt)
                          have HZg := hide (HZ.out g hlt)
                          have hr1 := HS5.out.rows g hlt
                          obtain ⟨a8, c8, hc8, hl8, hO8⟩ := HS5.out.done g 0 hlt (by omega) trivial
                          rw [piece_text T nt (z g) (gn g) (fun i hi => HZg.out i hi)] at hc8 hl8 hO8
                          have hSle := stream_le (fun i => T (z g i).toNat) (gn g) (fun i hi => by have := HZg.out i hi; exact HT.out _ (by omega))
                          obtain ⟨a1, ha1⟩ : ∃ a1, a1 = ga g := ⟨_, rfl⟩
                          obtain ⟨n1, hn1⟩ : ∃ n1, n1 = gn g := ⟨_, rfl⟩
                          rw [← ha1] at HI hck
                          rw [← hn1] at HI hck hsz HZg hc8 hl8 hO8 hSle
                          have HAt : Hid (At w5.heap.size w5 a8 (stream (fun i => T (z g i).toNat) n1).length (bytesOf (stream (fun i => T (z g i).toNat) n1))) := fun i hi => by
                            obtain ⟨b8, h81, h82, h83, h84⟩ := hO8 i hi
                            exact ⟨b8, 0, h81, h83, by rw [Nat.zero_add]; exact h84⟩
                          obtain ⟨lS, hlS⟩ : ∃ lS, lS = (stream (fun i => T (z g i).toNat) n1).length := ⟨_, rfl⟩
                          rw [← hlS] at hc8 hl8 hSle
                          have HlS := hide hlS
                          clear hc hn1 ha1 hO8 hlS
                          go_wp2
                          go_loopw [24, 25] (fun p t wr => ∃ k pk : Nat, k ≤ n1 ∧ t = .int .i64 k ∧ p = .int .i64 pk ∧ pk = (stream (fun i => T (z g i).toNat) k).length ∧ ∃ m, wr = w5.drewN m) (fun _ t _ => n1 - (intOf t).toNat)
                          case atStart => exact ⟨0, 0, by omega, rfl, rfl, rfl, m, rfl⟩
                          case round =>
                            obtain ⟨k, pk, hk, rfl, rfl, hpk, m1, rfl⟩ := hrel
                            have Hpk := hide hpk
                            clear hpk
                            by_cases hltk : k < n1
                            · obtain ⟨bi, offi, hai, _, hci⟩ := HI.out.addr (by omega)
                              subst hai
                              have hcz := hci k hltk
                              obtain ⟨hz0, hz1⟩ := HZg.out k hltk
                              obtain ⟨rest, hrest⟩ := stream_cut (fun i => T (z g i).toNat) hltk
                              obtain ⟨j, hj⟩ := Int.eq_ofNat_of_zero_le hz0
                              rw [hj] at hcz hz1
                              have hjn : j < nt := by omega
                              have hTk : (T (z g k).toNat) = T j := by rw [hj]; rfl
                              obtain ⟨bt, offt, hat, _, hct⟩ := HX5.out.addr (by omega)
                              subst hat
                              have hcj := hct j hjn
                              have hszj := HT.out j hjn
                              have hdrop : (stream (fun i => T (z g i).toNat) n1).drop pk = enc (T j) ++ rest := by
                                rw [Hpk.out, hrest, List.drop_left, hTk]
                              have hlen2 : pk + (enc (T j)).length = (stream (fun i => T (z g i).toNat) (k + 1)).length := by
                                rw [stream_succ, List.length_append, ← Hpk.out, hTk]
                              rw [enc_length] at hlen2
                              have Hlen2 := hide hlen2
                              have hc14 := read14 w5.heap.size a8 c8 pk (stream (fun i => T (z g i).toNat) n1) (T j) rest (w5.drewN m1) (by rw [← HlS.out]; omega) (by rw [← HlS.out]; exact hl8) hszj HAt.out hdrop
                              rw [← HlS.out] at hc14
                              obtain ⟨ul, hul⟩ : ∃ ul, ul = (Lib.uvarint (T j).size).length := ⟨_, rfl⟩
                              rw [← hul] at hc14 Hlen2
                              have Hc14 := hide hc14
                              have hule : ul ≤ 10 := by rw [hul]; exact Lib.uvarint_length64 (by omega)
                              have hpkl : pk ≤ 1099511627776 := by
                                rw [Hpk.out]
                                have := stream_le (fun i => T (z g i).toNat) k (fun i hi => by have := HZg.out i (by omega); exact HT.out _ (by omega))
                                omega
                              clear hci hj hct hz0 hz1 hrest hdrop hlen2 hc14 hTk hul
                              go_wp2_with fail
                              refine Hc14.out.mono ?_
                              rintro e wx ⟨rfl, m2, rfl⟩
                              clear Hc14
                              go_wp2
                              go_roundw
                              case rel => exact ⟨k + 1, pk + (ul + (T j).size), by omega, by go_num, by go_num, Hlen2.out, _, rfl⟩
                              case measure => simp [intOf]; omega
                            · obtain rfl : n1 = k := by omega
                              have hne : ((pk : Int) != (lS : Int)) = false := by rw [Hpk.out, HlS.out]; simp
                              go_wp2
                              go_roundw
                              case rel => exact ⟨g + 1, by omega, by go_num, _, rfl⟩
                              case measure => simp [intOf]; omega
                        · go_wp2
                          go_ret
                          exact ⟨rfl, HB5.out.trans (below_drewN _ _ _)⟩
end Go.Proofs.Qxb6615609aFmt
