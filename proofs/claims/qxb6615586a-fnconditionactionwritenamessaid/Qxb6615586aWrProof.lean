/-
  'FnConditionActionWriteNames' (function 4): the given statement, out of its walk (Qxb6615586aWrWalk.lean).
-/
import Derived.Test.Qxb6615586aWrWalk
import Derived.ProofKit
import Derived.OpenShut
import Derived.ShutString
import Derived.ChangeOld
namespace Go.Proofs.Qxb6615586a
open Go.ChangeShapes Go.WideShapes Go.ChangeAt Go.RowKit
set_option linter.unusedVariables false

theorem wr_own : ownKnob Try.prog.godebug = none := by kernel_rfl
theorem wr_laidOut : laidOutB Try.prog = true := by kernel_rfl

set_option maxRecDepth 100000 in
theorem wr_lifted (os : Os) (started : os.Started) (H : Type) (enc : TypeId × Value → H) :
    ReturnsInHanded {} Try.checked os 4 .any (Rows.fnConditionActionWriteNamesSpec.pre6 enc Try.prog Try.f4 Rows.fnConditionActionWriteNamesRow.domain false) (Rows.fnConditionActionWriteNamesSpec.post enc Try.prog Try.f4 false true false false) := by
  refine returnsInHanded_of_change (C := Try.checked) wr_own started (by kernel_rfl) Try.func4
    (ChangeSpec.witness6 (enc := enc) (C := Try.checked) false ⟨#[], #[.pointer none, .pointer none, .pointer none, .bool false], []⟩ 8 (by kernel_rfl) (by kernel_rfl) (by kernel_rfl) (by kernel_rfl)) ?_
  intro W base args ds gs before hval0 hW hcnd _
  have hval : ∀ (j : Nat) t v, Try.f4.params[j]? = some t → args[j]? = some v → Value.okWide Try.prog W .any base t v := hval0
  have hW' := hW
  obtain ⟨p, q, hA0, hV, rfl, hfz, hnd⟩ := hW
  have hA : DataW.TrodAll enc Try.prog W 0 (fun _ => true) true Try.f4.params.toList args.toList ds p := hA0
  rw [Try.params4] at hA hval
  obtain ⟨v0, vs0, d0, ds0, p0, q0, hargs, rfl, rfl, h0, r0⟩ := trodAll_cons hA
  obtain ⟨v1, vs1, d1, ds1, p1, q1, rfl, rfl, rfl, h1, r1⟩ := trodAll_cons r0
  obtain ⟨v2, vs2, d2, ds2, p2, q2, rfl, rfl, rfl, h2, r2⟩ := trodAll_cons r1
  obtain ⟨v3, vs3, d3, ds3, p3, q3, rfl, rfl, rfl, h3, r3⟩ := trodAll_cons r2
  obtain ⟨rfl, rfl, rfl⟩ := trodAll_nil r3
  obtain rfl : args = #[v0, v1, v2, v3] := by cases args; simp_all
  obtain ⟨rfl, rfl⟩ := trodVars_none hV
  have lt0 : ∀ x ∈ p0, x.block < W.heap.size := by obtain ⟨m, hm⟩ := h0; exact DataW.trod_lt m _ _ _ hm
  have lt1 : ∀ x ∈ p1, x.block < W.heap.size := by obtain ⟨m, hm⟩ := h1; exact DataW.trod_lt m _ _ _ hm
  have lt2 : ∀ x ∈ p2, x.block < W.heap.size := by obtain ⟨m, hm⟩ := h2; exact DataW.trod_lt m _ _ _ hm
  obtain ⟨ex, rfl⟩ := okWide_pointer Try.underlying22 (hval 0 22 v0 rfl rfl)
  obtain ⟨ip, rfl⟩ := okWide_pointer Try.underlying24 (hval 2 24 v2 rfl rfl)
  obtain ⟨r, rfl, rfl, rfl⟩ := open_bool Try.underlying4 (hval 3 4 v3 rfl rfl) h3
  have hbp : IsBoolPtr W ex := by
    rcases open_ptr Try.underlying22 (show 0 < Try.prog.cellsOf 4 from by rw [show Try.prog.cellsOf 4 = 1 by kernel_rfl]; omega) (hval 0 22 (.pointer ex) rfl rfl) h0 with ⟨hn, _, _⟩ | ⟨b, off, cs, y, fuel, hn, _, _, _, hcell, hy⟩
    · exact .inl (by simpa using hn)
    · obtain ⟨x, rfl, _⟩ := DataW.trod_bool Try.underlying4 hy
      refine .inr ⟨b, off, x, by simpa using hn, ?_⟩
      have := hcell 0 (by rw [show Try.prog.cellsOf 4 = 1 by kernel_rfl]; omega)
      simpa using this
  have wk : Calls Try.prog 4 #[.pointer ex, v1, .pointer ip, .bool r] W fun e w' => e = .returned (.bool true) ∧ Below W.heap.size W w' := by
    rcases open_ptr Try.underlying23 (show 0 < Try.prog.cellsOf 9 from by rw [show Try.prog.cellsOf 9 = 1 by kernel_rfl]; omega) (hval 1 23 v1 rfl rfl) h1 with ⟨rfl, _, _⟩ | ⟨b, off, cs, y, fuel, rfl, _, _, _, hcell, hy⟩
    · rcases ip with _ | ip
      · exact wr_nil_nil ex r W hbp
      · exact wr_nil_some ex ip r W hbp
    · obtain ⟨s, rfl, _, _⟩ := DataW.trod_string Try.underlying9 hy
      have hc : W.cell? ⟨b, off, none⟩ = some (.string s) := by
        have := hcell 0 (by rw [show Try.prog.cellsOf 9 = 1 by kernel_rfl]; omega)
        simpa using this
      by_cases hs : s.size ≤ 1048576
      · rcases hbp with rfl | ⟨bx, ox, x, rfl, hx⟩
        · exact wr_some_nil ip b off s r W hc hs
        · exact wr_some_some ip bx ox x b off s r W hx hc hs
      · exact wr_no ex ip b off s r W hc (by omega)
  clear hA0 hval0
  refine wk.mono fun e W' ⟨he, bel⟩ => ?_
  subst he
  exact ⟨_, rfl, _, _, _, [], _, [], hW', trodAll_mk1 (shut_bool Try.underlying4 _), (trodAll_cons_mk (Below.trod wr_laidOut (by kernel_rfl) (of_decide_eq_true (by kernel_rfl)) h0 bel lt0) (trodAll_cons_mk (Below.trod wr_laidOut (by kernel_rfl) (of_decide_eq_true (by kernel_rfl)) h1 bel lt1) (trodAll_cons_mk (Below.trod wr_laidOut (by kernel_rfl) (of_decide_eq_true (by kernel_rfl)) h2 bel lt2) (trodAll_cons_mk (shut_bool Try.underlying4 r) trodAll_mk0)))), rfl, bel.frame _, fun h => by cases h⟩

theorem wr_proved : Rows.FnConditionActionWriteNamesSaid :=
  OpenClaim.holds_of_wide 4 Try.f4 rfl rfl rfl rfl rfl rfl rfl ⟨rfl, rfl, rfl, rfl, rfl⟩ rfl rfl rfl rfl rfl (by kernel_rfl) Try.func4 (by kernel_rfl)
    (of_decide_eq_true (by kernel_rfl)) (by unfold Func.isWrapper; first | (rw [if_pos (by decide +kernel)]; kernel_rfl) | (rw [if_neg (by decide +kernel)]; exact ⟨rfl, rfl⟩))
    (fun os started H enc _ => wr_lifted os started H enc)
#print axioms wr_proved
end Go.Proofs.Qxb6615586a
