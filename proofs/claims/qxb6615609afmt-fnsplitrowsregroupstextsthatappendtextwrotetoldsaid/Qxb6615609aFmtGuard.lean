/-
  The law 'FnSplitRowsRegroupsTextsThatAppendTextWrote': what it is handed; its guard on total length (function 12).
-/
import Derived.Test.Qxb6615609aFmtRead
import Derived.Test.Qxb6615609aFmtStream
namespace Go.Proofs.Qxb6615609aFmt
open Go.RowKit

/-- What the law is handed: the texts and the groups, all below B. -/
structure Args4 (B : Nat) (w : World) (a : Option Addr) (nt : Nat) (T : Nat → ByteArray) (ag : Option Addr) (ng : Nat) (ga : Nat → Option Addr) (gn gc : Nat → Nat) (z : Nat → Nat → Int) : Prop where
  texts : At B w a nt fun i => .string (T i)
  tsize : ∀ i, i < nt → (T i).size ≤ 9223372036854775807
  tlen : nt ≤ 9223372036854775807
  groups : At B w ag ng fun g => .slice (ga g) (gn g) (gc g)
  glen : ng ≤ 9223372036854775807
  gsize : ∀ g, g < ng → gn g ≤ 9223372036854775807
  ints : ∀ g, g < ng → At B w (ga g) (gn g) fun i => .int .i64 (z g i)

/-- A bool comes back; nothing has turned. -/
def Asked (w : World) (e : Ending) (w' : World) : Prop := (∃ g, e = .returned (.bool g)) ∧ w' = w

set_option maxHeartbeats 2000000 in
theorem guard12 (B : Nat) (w : World) (db nm : ByteArray) (a : Option Addr) (nt ct : Nat) (T : Nat → ByteArray) (ag : Option Addr) (ng cg : Nat) (ga : Nat → Option Addr) (gn gc : Nat → Nat) (z : Nat → Nat → Int)
    (H : Hid (Args4 B w a nt T ag ng ga gn gc z)) (hdb : db.size ≤ 9223372036854775807) (hnm : nm.size ≤ 9223372036854775807) (hnt : nt ≤ 9223372036854775807) (hng : ng ≤ 9223372036854775807) :
    Calls Tryf.prog 12 #[.string db, .string nm, .slice a nt ct, .slice ag ng cg] w (Asked w) := by
  go_enter Tryf.func12, Tryf.ntmps12
  go_wp2
  all_goals try (go_ret; exact ⟨⟨_, rfl⟩, rfl⟩)
  go_loop [9, 10] (fun q t => ∃ k : Nat, k ≤ nt ∧ t = .int .i64 k ∧ ∃ x : Int, q = .int .i64 x ∧ 0 ≤ x ∧ x ≤ 1048576) (fun _ t => nt - (intOf t).toNat)
  case atStart => exact ⟨0, by omega, rfl, _, rfl, by omega, by omega⟩
  case round =>
    obtain ⟨k, hk, rfl, x, rfl, hx0, hx1⟩ := hrel
    by_cases hlt : k < nt
    · obtain ⟨b, off, ha, _, hc⟩ := H.out.texts.addr (by omega)
      subst ha
      have hck := hc k hlt
      have hsz := H.out.tsize k hlt
      clear hc
      go_wp2
      all_goals try (go_ret; exact ⟨⟨_, rfl⟩, rfl⟩)
      go_round
      case rel => exact ⟨k + 1, by omega, by go_num, _, rfl, by omega, by omega⟩
      case measure => simp [intOf]; omega
    · go_wp2
      all_goals try (go_ret; exact ⟨⟨_, rfl⟩, rfl⟩)
      go_loop [9, 11] (fun q t => ∃ k : Nat, k ≤ ng ∧ t = .int .i64 k ∧ ∃ x : Int, q = .int .i64 x ∧ 0 ≤ x ∧ x ≤ 1048576) (fun _ t => ng - (intOf t).toNat)
      case atStart => exact ⟨0, by omega, rfl, _, rfl, by omega, by omega⟩
      case round =>
        obtain ⟨g, hg, rfl, y, rfl, hy0, hy1⟩ := hrel
        by_cases hltg : g < ng
        · obtain ⟨b, off, ha, _, hc⟩ := H.out.groups.addr (by omega)
          subst ha
          have hck := hc g hltg
          have hsz := H.out.gsize g hltg
          clear hc
          go_wp2
          all_goals try (go_ret; exact ⟨⟨_, rfl⟩, rfl⟩)
          go_round
          case rel => exact ⟨g + 1, by omega, by go_num, _, rfl, by omega, by omega⟩
          case measure => simp [intOf]; omega
        · go_wp2
          go_ret
          exact ⟨⟨_, rfl⟩, rfl⟩
end Go.Proofs.Qxb6615609aFmt
