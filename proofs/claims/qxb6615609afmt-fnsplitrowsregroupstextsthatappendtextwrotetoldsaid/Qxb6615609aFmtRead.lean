/-
  zzReadText (function 14) where the text lies there.
-/
import Derived.Test.Qxb6615609aFmtApp
namespace Go.Proofs.Qxb6615609aFmt
open Go.RowKit

/-- The bytes of l from p on: a text and what is behind it. -/
theorem read_parts {l : List UInt8} {p : Nat} {s : ByteArray} {r : List UInt8} (h : l.drop p = enc s ++ r) :
    p + (Lib.uvarint s.size).length + s.size ≤ l.length ∧ (∀ k, k < s.size → l[p + (Lib.uvarint s.size).length + k]? = some s.data.toList[k]!) ∧ (∀ k, k < (Lib.uvarint s.size).length → l[p + k]? = (Lib.uvarint s.size)[k]?) := by
  have hu := Lib.uvarint_pos s.size
  have hsz : s.data.toList.length = s.size := by simp
  have hlen : l.length - p = (Lib.uvarint s.size).length + s.size + r.length := by
    have := congrArg List.length h
    simp only [List.length_drop, enc, List.length_append, hsz] at this
    omega
  have key : ∀ j, l[p + j]? = (enc s ++ r)[j]? := by
    intro j
    rw [← h, List.getElem?_drop]
  refine ⟨by omega, fun k hk => ?_, fun k hk => ?_⟩
  · rw [Nat.add_assoc, key, enc, List.append_assoc, List.getElem?_append_right (by omega), Nat.add_sub_cancel_left, List.getElem?_append_left (by omega), List.getElem?_eq_getElem (by omega)]
    congr 1
    rw [getElem!_pos _ _ (by omega)]
  · rw [key, enc, List.append_assoc, List.getElem?_append_left hk]

set_option maxHeartbeats 2000000 in
theorem read14_some (b off n c p u : Nat) (s : ByteArray) (w : World) (hn : n ≤ 1099511627776) (hnc : n ≤ c) (hs : s.size ≤ 1048576) (hu : 1 ≤ u) (hu3 : u ≤ 10) (hfit : p + u + s.size ≤ n)
    (Hk : Hid (Calls Tryf.prog 16 #[.slice (some ⟨b, off + p, none⟩) (n - p) (c - p)] w fun e w' => e = .returned (.tuple #[.int .u64 (s.size : Int), .int .i64 (u : Int)]) ∧ w' = w))
    (Hlast : Hid (1 < u → ∃ x : Nat, 0 < x ∧ w.cell? ⟨b, off + (p + u - 1), none⟩ = some (.int .u8 (x : Int))))
    (Hby : Hid (∀ k (hk : k < s.size), w.cell? ⟨b, off + (p + u + k), none⟩ = some (.int .u8 (s[k].toNat : Int)))) :
    Calls Tryf.prog 14 #[.slice (some ⟨b, off, none⟩) n c, .int .i64 (p : Int), .string s] w (Drawn (.tuple #[.int .i64 ((p : Int) + u + s.size), .bool true]) w) := by
  by_cases h1 : 1 < u
  · obtain ⟨x, hx, hcx⟩ := Hlast.out h1
    have hx0 : ((x : Int) == 0) = false := by simp; omega
    clear Hlast
    go_enter Tryf.func14, Tryf.ntmps14
    go_wp2_with fail
    refine Hk.out.mono ?_
    rintro e w' ⟨rfl, rfl⟩
    go_wp2
    clear Hk
    go_loopw [11] (fun t wr => ∃ k : Nat, k ≤ s.size ∧ t = .int .i64 k ∧ ∃ m, wr = w'.drewN m) (fun t _ => s.size - (intOf t).toNat)
    case atStart => exact ⟨0, by omega, rfl, 0, rfl⟩
    case round =>
      obtain ⟨k, hk, rfl, m, rfl⟩ := hrel
      by_cases hlt : k < s.size
      · have hck := Hby.out k hlt
        go_wp2
        go_quiet (fail)
        go_wp2
        go_roundw
        case rel => exact ⟨k + 1, by omega, by go_num, _, rfl⟩
        case measure => simp [intOf]; omega
      · go_wp2
        go_ret2
        exact ⟨rfl, _, rfl⟩
  · have h1' : u = 1 := by omega
    subst h1'
    clear Hlast
    go_enter Tryf.func14, Tryf.ntmps14
    go_wp2_with fail
    refine Hk.out.mono ?_
    rintro e w' ⟨rfl, rfl⟩
    go_wp2
    clear Hk
    go_loopw [11] (fun t wr => ∃ k : Nat, k ≤ s.size ∧ t = .int .i64 k ∧ ∃ m, wr = w'.drewN m) (fun t _ => s.size - (intOf t).toNat)
    case atStart => exact ⟨0, by omega, rfl, 0, rfl⟩
    case round =>
      obtain ⟨k, hk, rfl, m, rfl⟩ := hrel
      by_cases hlt : k < s.size
      · have hck := Hby.out k hlt
        go_wp2
        go_quiet (fail)
        go_wp2
        go_roundw
        case rel => exact ⟨k + 1, by omega, by go_num, _, rfl⟩
        case measure => simp [intOf]; omega
      · go_wp2
        go_ret2
        exact ⟨rfl, _, rfl⟩

theorem read14 (B : Nat) (a : Option Addr) (c p : Nat) (l : List UInt8) (s : ByteArray) (r : List UInt8) (w : World) (hn : l.length ≤ 1099511627776) (hnc : l.length ≤ c) (hs : s.size ≤ 1048576) (hat : At B w a l.length (bytesOf l)) (h : l.drop p = enc s ++ r) :
    Calls Tryf.prog 14 #[.slice a l.length c, .int .i64 (p : Int), .string s] w (Drawn (.tuple #[.int .i64 ((p : Int) + ((Lib.uvarint s.size).length : Nat) + s.size), .bool true]) w) := by
  obtain ⟨hfit, hby, hub⟩ := read_parts h
  have hu := Lib.uvarint_pos s.size
  have hu3 := Lib.uvarint_length64 (x := s.size) (by omega)
  obtain ⟨b, off, rfl, hb, hc⟩ := hat.addr (by omega)
  have hcell : ∀ i x, l[i]? = some x → w.cell? ⟨b, off + i, none⟩ = some (.int .u8 (x.toNat : Int)) := by
    intro i x hx
    have hi : i < l.length := (List.getElem?_eq_some_iff.1 hx).1
    rw [hc i hi, bytesOf, List.getD_eq_getElem?_getD, hx]
    rfl
  have hk : Calls Tryf.prog 16 #[.slice (some ⟨b, off + p, none⟩) (l.length - p) (c - p)] w fun e w' => e = .returned (.tuple #[.int .u64 (s.size : Int), .int .i64 ((Lib.uvarint s.size).length : Int)]) ∧ w' = w := by
    have hd : Lib.uvarintDec (l.drop p) = (s.size, ((Lib.uvarint s.size).length : Int)) := by
      rw [h, enc, List.append_assoc]
      exact dec_uvarint (by omega) _
    have hh := uv16_row b (off + p) (l.length - p) (c - p) (l.drop p) w (by simp) (fun j hj => by
      rw [List.length_drop] at hj
      rw [Nat.add_assoc]
      refine hcell (p + j) _ ?_
      rw [← List.getElem?_drop, List.getElem?_eq_getElem])
    rw [hd] at hh
    exact hh
  refine read14_some b off l.length c p _ s w hn hnc hs hu hu3 hfit hk (fun h1 => ?_) (fun k hk' => ?_)
  · have hlt : (Lib.uvarint s.size).length - 1 < (Lib.uvarint s.size).length := by omega
    have h2 := (hub ((Lib.uvarint s.size).length - 1) hlt).trans (List.getElem?_eq_getElem hlt)
    refine ⟨_, ?_, by rw [show p + (Lib.uvarint s.size).length - 1 = p + ((Lib.uvarint s.size).length - 1) by omega]; exact hcell _ _ h2⟩
    have h3 := uvarint_last (x := s.size) (by omega) h1
    rw [List.getD_eq_getElem?_getD, List.getElem?_eq_getElem hlt] at h3
    exact Nat.pos_of_ne_zero h3
  · refine hcell _ _ ?_
    rw [hby k hk']
    congr 1
    rw [getElem!_pos _ _ (by simpa using hk')]
    rfl
end Go.Proofs.Qxb6615609aFmt
