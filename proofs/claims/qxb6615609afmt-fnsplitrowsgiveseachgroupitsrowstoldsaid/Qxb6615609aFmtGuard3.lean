/-
  The law 'FnSplitRowsGivesEachGroupItsRows': what it is handed; its guard on total length (function 5).
-/
import Derived.Test.Qxb6615609aFmtSplitB
namespace Go.Proofs.Qxb6615609aFmt
open Go.RowKit

/-- What the law is handed: the widths, the data and the groups, all below B. -/
structure Args3 (B : Nat) (w : World) (aw : Option Addr) (nw : Nat) (wd : Nat → Int) (ad : Option Addr) (nd : Nat) (da : Nat → Option Addr) (dn dc : Nat → Nat) (L : Nat → List UInt8) (ag : Option Addr) (ng : Nat) (ga : Nat → Option Addr) (gn gc : Nat → Nat) (z : Nat → Nat → Int) : Prop where
  widths : At B w aw nw fun s => .int .i64 (wd s)
  data : At B w ad nd fun s => .slice (da s) (dn s) (dc s)
  dsize : ∀ s, s < nd → dn s = (L s).length ∧ dn s ≤ dc s ∧ dn s ≤ 9223372036854775807
  bytes : ∀ s, s < nd → At B w (da s) (dn s) (bytesOf (L s))
  groups : At B w ag ng fun g => .slice (ga g) (gn g) (gc g)
  gsize : ∀ g, g < ng → gn g ≤ 9223372036854775807
  ints : ∀ g, g < ng → At B w (ga g) (gn g) fun i => .int .i64 (z g i)

theorem Args3.below {B : Nat} {w w' : World} {aw : Option Addr} {nw : Nat} {wd : Nat → Int} {ad : Option Addr} {nd : Nat} {da : Nat → Option Addr} {dn dc : Nat → Nat} {L : Nat → List UInt8} {ag : Option Addr} {ng : Nat} {ga : Nat → Option Addr} {gn gc : Nat → Nat} {z : Nat → Nat → Int}
    (h : Args3 B w aw nw wd ad nd da dn dc L ag ng ga gn gc z) (hb : Below B w w') : Args3 B w' aw nw wd ad nd da dn dc L ag ng ga gn gc z :=
  ⟨h.widths.below hb, h.data.below hb, h.dsize, fun s hs => (h.bytes s hs).below hb, h.groups.below hb, h.gsize, fun g hg => (h.ints g hg).below hb⟩

/-- A bool comes back, true only for not too many widths; nothing has turned. -/
def Asked3 (nw : Nat) (w : World) (e : Ending) (w' : World) : Prop := (∃ g, e = .returned (.bool g) ∧ (g = true → nw ≤ 1048576)) ∧ w' = w

set_option maxHeartbeats 2000000 in
theorem guard5 (B : Nat) (w : World) (db nm : ByteArray) (aw : Option Addr) (nw cw : Nat) (wd : Nat → Int) (rows : Int) (ad : Option Addr) (nd cd : Nat) (da : Nat → Option Addr) (dn dc : Nat → Nat) (L : Nat → List UInt8) (ag : Option Addr) (ng cg : Nat) (ga : Nat → Option Addr) (gn gc : Nat → Nat) (z : Nat → Nat → Int)
    (H : Hid (Args3 B w aw nw wd ad nd da dn dc L ag ng ga gn gc z)) (hdb : db.size ≤ 9223372036854775807) (hnm : nm.size ≤ 9223372036854775807) (hnw : nw ≤ 9223372036854775807) (hnd : nd ≤ 9223372036854775807) (hng : ng ≤ 9223372036854775807) :
    Calls Tryf.prog 5 #[.string db, .string nm, .slice aw nw cw, .int .i64 rows, .slice ad nd cd, .slice ag ng cg] w (Asked3 nw w) := by
  go_enter Tryf.func5, Tryf.ntmps5
  go_wp2
  all_goals try (go_ret; exact ⟨⟨_, rfl, by intro hg; first | omega | cases hg⟩, rfl⟩)
  go_loop [13, 14] (fun q t => ∃ k : Nat, k ≤ nd ∧ t = .int .i64 k ∧ ∃ x : Int, q = .int .i64 x ∧ 0 ≤ x ∧ x ≤ 1048576) (fun _ t => nd - (intOf t).toNat)
  case atStart => exact ⟨0, by omega, rfl, _, rfl, by omega, by omega⟩
  case round =>
    obtain ⟨k, hk, rfl, x, rfl, hx0, hx1⟩ := hrel
    by_cases hlt : k < nd
    · obtain ⟨b, off, ha, _, hc⟩ := H.out.data.addr (by omega)
      subst ha
      have hck := hc k hlt
      have hsz := (H.out.dsize k hlt).2.2
      clear hc
      go_wp2
      all_goals try (go_ret; exact ⟨⟨_, rfl, by intro hg; first | omega | cases hg⟩, rfl⟩)
      go_round
      case rel => exact ⟨k + 1, by omega, by go_num, _, rfl, by omega, by omega⟩
      case measure => simp [intOf]; omega
    · go_wp2
      all_goals try (go_ret; exact ⟨⟨_, rfl, by intro hg; first | omega | cases hg⟩, rfl⟩)
      go_loop [13, 15] (fun q t => ∃ k : Nat, k ≤ ng ∧ t = .int .i64 k ∧ ∃ x : Int, q = .int .i64 x ∧ 0 ≤ x ∧ x ≤ 1048576) (fun _ t => ng - (intOf t).toNat)
      case atStart => exact ⟨0, by omega, rfl, _, rfl, by omega, by omega⟩
      case round =>
        obtain ⟨g, hg, rfl, y, rfl, hy0, hy1⟩ := hrel
        by_cases hltg : g < ng
        · obtain ⟨b, off, ha, _, hc⟩ := H.out.groups.addr (by omega)
          subst ha
          have hck := hc g hltg
          have hsz := H.out.gsize g hltg
          clear hc
          go_wp2
          all_goals try (go_ret; exact ⟨⟨_, rfl, by intro hg; first | omega | cases hg⟩, rfl⟩)
          go_round
          case rel => exact ⟨g + 1, by omega, by go_num, _, rfl, by omega, by omega⟩
          case measure => simp [intOf]; omega
        · go_wp2
          go_ret
          exact ⟨⟨_, rfl, by intro hg; first | omega | cases hg⟩, rfl⟩
end Go.Proofs.Qxb6615609aFmt
