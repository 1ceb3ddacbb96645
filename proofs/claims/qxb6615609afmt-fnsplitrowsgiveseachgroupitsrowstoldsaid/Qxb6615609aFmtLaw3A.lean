/-
  The law 'FnSplitRowsGivesEachGroupItsRows' (function 3): its guards.
-/
import Derived.Test.Qxb6615609aFmtLaw3
import Derived.Deep.DeepCutAuto
namespace Go.Proofs.Qxb6615609aFmt
open Go.RowKit

set_option maxRecDepth 100000 in
set_option maxHeartbeats 16000000 in
theorem partA (w0 : World) (db nm : ByteArray) (nw : Nat) (wd : Nat → Int) (rowz : Int) (ad : Option Addr) (nd cd : Nat) (da : Nat → Option Addr) (dn dc : Nat → Nat) (L : Nat → List UInt8) (ag : Option Addr) (ng cg : Nat) (ga : Nat → Option Addr) (gn gc : Nat → Nat) (z : Nat → Nat → Int)
    (HB : Hid (∀ r : Nat, PartB w0 db nm nw wd r ad nd cd da dn dc L ag ng cg ga gn gc z)) : PartA w0 db nm nw wd rowz ad nd cd da dn dc L ag ng cg ga gn gc z := by
  intro w aw cw H Hb hdb hnm hnw hnd hng K c12 c13 c42 c43 c44 c45 c46 c47 c48 c49 c50 c51 c52 c53 c54 c55 c56 c57 c58 c59 c60 c61 c62 c63 c64 c65 c66 hK
  conv => arg 2; whnf
  conv at hK => enter [a, w', 1, 2]; whnf
  go_wp2
  all_goals try (go_ret; exact ⟨rfl, Hb.out⟩)
  go_loop [14, 15] (fun q t => ∃ k : Nat, k ≤ nd ∧ t = .int .i64 k ∧ (∃ x : Int, q = .int .i64 x ∧ 0 ≤ x ∧ x ≤ 1048576) ∧ ∀ j, j < k → dn j ≤ 1048576) (fun _ t => nd - (intOf t).toNat)
  case atStart => exact ⟨0, by omega, rfl, ⟨_, rfl, by omega, by omega⟩, by intro j hj; omega⟩
  case round =>
    obtain ⟨k, hk, rfl, ⟨x, rfl, hx0, hx1⟩, hD⟩ := hrel
    have HD := hide hD
    clear hD
    by_cases hlt : k < nd
    · obtain ⟨b, off, ha, _, hc⟩ := H.out.data.addr (by omega)
      subst ha
      have hck := hc k hlt
      have hsz := (H.out.dsize k hlt).2.2
      clear hc
      go_wp2
      all_goals try (go_ret; exact ⟨rfl, Hb.out⟩)
      go_round
      case rel => exact ⟨k + 1, by omega, by go_num, ⟨_, rfl, by omega, by omega⟩, by intro j hj; by_cases e : j = k; (subst e; omega); exact HD.out j (by omega)⟩
      case measure => simp [intOf]; omega
    · obtain rfl : nd = k := by omega
      clear hk hlt
      go_wp2
      all_goals try (go_ret; exact ⟨rfl, Hb.out⟩)
      go_loop [14, 16] (fun q t => ∃ k : Nat, k ≤ ng ∧ t = .int .i64 k ∧ (∃ x : Int, q = .int .i64 x ∧ 0 ≤ x ∧ x ≤ 1048576) ∧ ∀ j, j < k → gn j ≤ 131072) (fun _ t => ng - (intOf t).toNat)
      case atStart => exact ⟨0, by omega, rfl, ⟨_, rfl, by omega, by omega⟩, by intro j hj; omega⟩
      case round =>
        obtain ⟨k, hk, rfl, ⟨y, rfl, hy0, hy1⟩, hN⟩ := hrel
        have HN := hide hN
        clear hN
        by_cases hlt : k < ng
        · obtain ⟨b, off, ha, _, hc⟩ := H.out.groups.addr (by omega)
          subst ha
          have hck := hc k hlt
          have hsz := H.out.gsize k hlt
          clear hc
          go_wp2
          all_goals try (go_ret; exact ⟨rfl, Hb.out⟩)
          go_round
          case rel => exact ⟨k + 1, by omega, by go_num, ⟨_, rfl, by omega, by omega⟩, by intro j hj; by_cases e : j = k; (subst e; omega); exact HN.out j (by omega)⟩
          case measure => simp [intOf]; omega
        · obtain rfl : ng = k := by omega
          clear hk hlt hx0 hx1 hy0 hy1
          go_upto_region 43 with fail
          go_cut [157] from 42 to 157 (fun v wc => ∃ b : Bool, v = .bool b ∧ wc = w)
          case first =>
            by_cases h0 : ng = 0
            · subst h0
              go_wp2
              go_meet
              exact ⟨_, rfl, rfl⟩
            · have h1 : (0 : Int) < ng := by omega
              have h2 : ¬ (ng : Int) = 0 := by omega
              go_wp2
              all_goals (go_meet; exact ⟨_, rfl, rfl⟩)
          case rest =>
            obtain ⟨b, rfl, rfl⟩ := hcut
            cases b
            · by_cases hr0 : rowz < 0
              · go_wp2
                go_ret
                exact ⟨rfl, Hb.out⟩
              by_cases hr1 : 65536 < rowz
              · go_wp2
                go_ret
                exact ⟨rfl, Hb.out⟩
              obtain ⟨rows, rfl⟩ := Int.eq_ofNat_of_zero_le (show 0 ≤ rowz by omega)
              go_wp2
              go_loop [17] (fun t => ∃ k : Nat, k ≤ nw ∧ t = .int .i64 k ∧ ∀ j, j < k → 0 ≤ wd j ∧ wd j ≤ 16384) (fun t => nw - (intOf t).toNat)
              case atStart => exact ⟨0, by omega, rfl, by intro j hj; omega⟩
              case round =>
                obtain ⟨k, hk, rfl, hW⟩ := hrel
                have HW := hide hW
                clear hW
                by_cases hlt : k < nw
                · obtain ⟨b, off, ha, _, hc⟩ := H.out.widths.addr (by omega)
                  subst ha
                  have hcz := hc k hlt
                  obtain ⟨zz, hzz⟩ : ∃ zz, zz = wd k := ⟨_, rfl⟩
                  rw [← hzz] at hcz
                  have Hzz := hide hzz
                  clear hc hzz
                  by_cases hz0 : zz < 0
                  · go_wp2
                    go_ret
                    exact ⟨rfl, Hb.out⟩
                  by_cases hz1 : 16384 < zz
                  · go_wp2
                    go_ret
                    exact ⟨rfl, Hb.out⟩
                  go_wp2
                  go_round
                  case rel => exact ⟨k + 1, by omega, by go_num, by intro i hi; by_cases e : i = k; (subst e; rw [← Hzz.out]; omega); exact HW.out i (by omega)⟩
                  case measure => simp [intOf]; omega
                · obtain rfl : nw = k := by omega
                  clear hk hlt
                  go_wp2
                  go_loop [18] (fun t => ∃ k : Nat, k ≤ ng ∧ t = .int .i64 k ∧ ∀ j, j < k → ∀ i, i < gn j → 0 ≤ z j i ∧ z j i < rows) (fun t => ng - (intOf t).toNat)
                  case atStart => exact ⟨0, by omega, rfl, by intro j hj; omega⟩
                  case round =>
                    obtain ⟨g, hg, rfl, hZ⟩ := hrel
                    have HZ := hide hZ
                    clear hZ
                    by_cases hlt : g < ng
                    · obtain ⟨b, off, ha, _, hc⟩ := H.out.groups.addr (by omega)
                      subst ha
                      have hck := hc g hlt
                      have hsz := HN.out g hlt
                      have HI := hide (H.out.ints g hlt)
                      obtain ⟨a1, ha1⟩ : ∃ a1, a1 = ga g := ⟨_, rfl⟩
                      obtain ⟨n1, hn1⟩ : ∃ n1, n1 = gn g := ⟨_, rfl⟩
                      rw [← ha1] at HI hck
                      rw [← hn1] at HI hck hsz
                      have Hn1 := hide hn1
                      clear hc hn1 ha1
                      go_wp2
                      go_loop [19] (fun t => ∃ k : Nat, k ≤ n1 ∧ t = .int .i64 k ∧ ∀ i, i < k → 0 ≤ z g i ∧ z g i < rows) (fun t => n1 - (intOf t).toNat)
                      case atStart => exact ⟨0, by omega, rfl, by intro j hj; omega⟩
                      case round =>
                        obtain ⟨k, hk, rfl, hZ⟩ := hrel
                        have HZ1 := hide hZ
                        clear hZ
                        by_cases hltk : k < n1
                        · obtain ⟨bi, offi, hai, _, hci⟩ := HI.out.addr (by omega)
                          subst hai
                          have hcz := hci k hltk
                          obtain ⟨zz, hzz⟩ : ∃ zz, zz = z g k := ⟨_, rfl⟩
                          rw [← hzz] at hcz
                          have Hzz := hide hzz
                          clear hci hzz
                          by_cases hz0 : zz < 0
                          · go_wp2
                            go_ret
                            exact ⟨rfl, Hb.out⟩
                          by_cases hz1 : (rows : Int) ≤ zz
                          · go_wp2
                            go_ret
                            exact ⟨rfl, Hb.out⟩
                          go_wp2
                          go_round
                          case rel => exact ⟨k + 1, by omega, by go_num, by intro i hi; by_cases e : i = k; (subst e; rw [← Hzz.out]; omega); exact HZ1.out i (by omega)⟩
                          case measure => simp [intOf]; omega
                        · obtain rfl : n1 = k := by omega
                          go_wp2
                          go_round
                          case rel => exact ⟨g + 1, by omega, by go_num, by intro j hj; by_cases e : j = g; (subst e; rw [← Hn1.out]; exact HZ1.out); exact HZ.out j (by omega)⟩
                          case measure => simp [intOf]; omega
                    · obtain rfl : ng = g := by omega
                      clear hg hlt
                      go_upto_region 60 with fail
                      refine HB.out rows wc aw cw ⟨H.out, HD.out, HN.out, HW.out, HZ.out⟩ Hb.out hdb hnm (by omega) (by omega) (by omega) (by omega) _ _ _ _ _ _ _ _ _ _ _ _ _ _ _ _ _ _ _ _ _ _ _ _ _ _ _ _ _ _ _ _ _ _ _ _ _ _ _ _ _ _ _ _ _ _ _ _ _ _ _ _ _ _ _ _ _ _ _ _ _ _ _ _ _ _ _ _ _ _ _ _ _ _ _ _ _ _ _ _ _ _ _ _ _ _ _ _ _ _ _ _ _ _ _ _ _ _ _ _ _ _ _ _ _ _ _ _ _ _ _ _ _ _ _ _ _ _ _ _ _ _ _ _ _ _ _ _ _ _ _ _ _ _ _ _ _ _ _ _ _ _ _ _ _ _ _ _ _ _ _ _ _ _ _ _ _ _ _ _ _ _ _ _ _ _ _ _ _ _ _ _ _ _ _ _ _ _ _ _ _ _ _ ?_
                      assumption
            · go_wp2
              go_ret
              exact ⟨rfl, Hb.out⟩
end Go.Proofs.Qxb6615609aFmt
