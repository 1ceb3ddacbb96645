/-
  (time.Duration).String (25), and fmt.Errorf (17) over two durations.
-/
import Derived.Test.Qxb6615891aFmtDur3
namespace Go.Proofs.Qxb6615891aFmt
open Go.RowKit Go.Extern.Stop Go.Stop Go.Extern
attribute [local go_sem] Ft.callErrorf Ft.callSprintf Ft.guard Ft.fmt0 Ft.fmt0r Ft.fmt1 Ft.fmt1r Ft.fmt2 Ft.fmt2r Ft.act3_100 Ft.op3_100 Ft.act22_118w Ft.isString22 Ft.isError22 Ft.str22 Ft.act29_118w Ft.isString29 Ft.isError29 Ft.str29 Ft.ptr63 Ft.elem63 Ft.isError63 Ft.act63_119w Ft.ptr62 Ft.elem62 Ft.isError62 Ft.act62_119w

/-- string(buf[r:]). -/
theorem conv72 (w0 : World) (b r : Nat) (w : World) (hB : Buf w0 b w) (hr : r ≤ 31) : ∃ s, Sem.run Tryf.prog (convert 72 9 (.slice (some ⟨b, r, none⟩) (32 - r) (32 - r))) w = .ok (.string s) w := by
  obtain ⟨f, hf⟩ : ∃ f : Nat → Int, ∀ j, j < 32 → w.cell? ⟨b, j, none⟩ = some (.int .u8 (f j)) :=
    ⟨fun j => if h : j < 32 then (hB.there j h).choose else 0, fun j hj => by simp only [hj, dif_pos]; exact (hB.there j hj).choose_spec⟩
  exact ⟨_, run_convert_bytes_arg w 72 5 Tryf.underlying72 Tryf.underlying5 b r (32 - r) (32 - r) ((List.range (32 - r)).map fun i => f (r + i)) (by simp) (fun i hi => by
    rw [hf (r + i) (by omega)]
    simp [hi]) 9 Tryf.underlying9⟩

set_option maxRecDepth 100000 in
set_option maxHeartbeats 1000000 in
theorem string25 (d : Int) (w : World) (h1 : -9223372036854775808 ≤ d) (h2 : d ≤ 9223372036854775807) : Calls Tryf.prog 25 #[.int .i64 d] w (Texted w) := by
  have hbuf : ∀ C : Array Value, C = Array.replicate 32 (.int .u8 0) → Buf w w.heap.size (w.alloc (.cells C 80)) := by
    rintro C rfl
    refine ⟨(Below.refl _ _).alloc (Nat.le_refl _) _, fun j hj => ⟨0, ?_⟩, fun j hj => by simp⟩
    rw [World.cell?_alloc_new]; simp [hj]
  have Hb := hide hbuf
  clear hbuf
  go_enter Tryf.func25, Tryf.ntmps25
  go_wp2_with fail
  refine (format30 w w.heap.size d _ (Hb.out _ ?_) h1 h2).mono ?_
  · rfl
  rintro e w1 ⟨r, rfl, _, hr, hb⟩
  obtain ⟨s, hs⟩ := conv72 w _ r w1 hb hr
  have hsl := sl80l w.heap.size r (by omega)
  have Hb1 := hide hb
  clear hb
  go_wp2
  go_ret
  exact ⟨s, rfl, Hb1.out.below⟩

/-- fmt.Errorf("time %v is before the engine's time %v", d1, d2), the operands in the block b. -/
theorem errTime (F : Interp) (d1 d2 : Int) (b : Nat) (w : World) (hF : F.answers w.tape) (h1 : -9223372036854775808 ≤ d1) (h2 : d1 ≤ 9223372036854775807) (h3 : -9223372036854775808 ≤ d2) (h4 : d2 ≤ 9223372036854775807) (hb : b < w.heap.size)
    (hc : w.cell? ⟨b, 0, none⟩ = some (.iface 29 (.int .i64 d1))) (hc1 : w.cell? ⟨b, 1, none⟩ = some (.iface 29 (.int .i64 d2))) :
    Calls Tryf.prog 17 #[.string ⟨#[116, 105, 109, 101, 32, 37, 118, 32, 105, 115, 32, 98, 101, 102, 111, 114, 101, 32, 116, 104, 101, 32, 101, 110, 103, 105, 110, 101, 39, 115, 32, 116, 105, 109, 101, 32, 37, 118]⟩, .slice (some ⟨b, 0, none⟩) 2 2] w (Erred w) := by
  have hF' := answers_open hF
  go_enter Tryf.func17, Tryf.ntmps17
  go_wp2
  apply rows_call Ft.nextTurns
  case hr =>
    go_simp
    exact ⟨⟨rfl, rfl, rfl⟩, rfl⟩
  case hi => exact Ft.invokeString29 _ _
  case hc =>
    refine (string25 d1 _ h1 h2).mono ?_
    rintro e w3 ⟨s, rfl, hx⟩
    have hF3 := answers_open (show F.answers w3.tape by rw [hx.tape]; exact hF)
    have hc3 : w3.cell? ⟨b, 0, none⟩ = some (.iface 29 (.int .i64 d1)) := by rw [hx.cell (p := ⟨b, 0, none⟩) hb]; exact hc
    have hc4 : w3.cell? ⟨b, 1, none⟩ = some (.iface 29 (.int .i64 d2)) := by rw [hx.cell (p := ⟨b, 1, none⟩) hb]; exact hc1
    have Hx := hide hx
    clear hx hF' hc hc1
    apply rows_call Ft.nextReturned
    case hr =>
      go_simp
      exact ⟨⟨rfl, rfl, rfl⟩, rfl⟩
    case hi => exact Ft.invokeString29 _ _
    case hc =>
      have hF3' : F.answers w3.tape := by rw [Hx.out.tape]; exact hF
      refine (string25 d2 _ h3 h4).mono ?_
      rintro e w5 ⟨s5, rfl, hx5⟩
      have hb5 : b < w3.heap.size := Nat.lt_of_lt_of_le hb Hx.out.size
      have hF5 := answers_open (show F.answers w5.tape by rw [hx5.tape]; exact hF3')
      have hc5 : w5.cell? ⟨b, 0, none⟩ = some (.iface 29 (.int .i64 d1)) := by rw [hx5.cell (p := ⟨b, 0, none⟩) hb5]; exact hc3
      have hc6 : w5.cell? ⟨b, 1, none⟩ = some (.iface 29 (.int .i64 d2)) := by rw [hx5.cell (p := ⟨b, 1, none⟩) hb5]; exact hc4
      have Hx5 : Hid (Below w.heap.size w w5) := hide (Hx.out.trans (hx5.mono Hx.out.size))
      clear hx5 hF3 hc3 hc4
      apply rows_value Ft.nextReturned
      case hr =>
        go_simp
        exact ⟨rfl, rfl⟩
      case h =>
        go_wp2
        go_ret
        exact ⟨_, _, rfl, (Hx5.out.alloc Hx5.out.size _).drew⟩
end Go.Proofs.Qxb6615891aFmt
