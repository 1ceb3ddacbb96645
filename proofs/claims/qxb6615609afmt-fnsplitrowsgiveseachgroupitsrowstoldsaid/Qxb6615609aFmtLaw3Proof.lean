/-
  'FnSplitRowsGivesEachGroupItsRows' (function 3): the told card, out of the walk.
-/
import Derived.Test.Qxb6615609aFmtLaw3P
import Derived.Test.Qxb6615609aFmtCards
import Derived.ProofKit
import Derived.OpenShut
import Derived.ShutString
import Derived.ChangeSlices
import Derived.ChangeOld
import Derived.Deep.Matrix
import Derived.Stop.JoinedAt
import Derived.Stop.JoinedTold
import Derived.SevenToldRow
namespace Go.Proofs.Qxb6615609aFmt
open Go.ChangeShapes Go.WideShapes Go.ChangeAt Go.RowKit Go.Kit
open Go.ChangeMaps (open_string shut_string)
open Go.Extern.Stop Go.Stop Go.Extern
set_option linter.unusedVariables false

theorem own : ownKnob Tryf.prog.godebug = none := by kernel_rfl
theorem laidOut : laidOutB Tryf.prog = true := by kernel_rfl
theorem laidOutP : laidOutB Tryf.pinned.checked.prog = true := by kernel_rfl
theorem stopsP : Tryf.pinned.checked.prog.stops = Rows.fnSplitRowsGivesEachGroupItsRowsRow.stops := by kernel_rfl
theorem stopKnobsP : Tryf.pinned.checked.prog.stopKnobs = [] := by kernel_rfl
theorem quietP (os : Os) : Stop.quiet Tryf.pinned.checked.prog os := by
  intro k hk
  rw [stopKnobsP] at hk
  cases hk

/-- From what the openers hand over to 'At'. -/
theorem at_of_add {w : World} {a : Addr} {n : Nat} {f : Nat → Value} (h : ∀ i, i < n → w.cell? (a.add i) = some (f i)) : At w.heap.size w (some a) n f := by
  intro i hi
  obtain ⟨b, off, spot⟩ := a
  have h0 := h 0 (by omega)
  have hspot : spot = none := by simpa [Addr.add] using World.cell?_spot h0
  subst hspot
  have hb := World.block_lt_of_cell? _ _ h0
  rw [Addr.add_lit] at hb
  refine ⟨b, off, rfl, hb, ?_⟩
  rw [← Addr.add_lit]
  exact h i hi

/-- Numbers that are bytes, as bytes. -/
theorem bytes_of_nums (zs : List Int) (hz : ∀ n ∈ zs, (Lit.int .u8 n).wf = true) (i : Nat) (hi : i < zs.length) : Value.int .u8 (zs.getD i 0) = bytesOf (zs.map fun n => UInt8.ofNat n.toNat) i := by
  have hm : zs.getD i 0 ∈ zs := by rw [List.getD_eq_getElem?_getD, List.getElem?_eq_getElem hi]; simp
  have hb := bounds_u8 (hz _ hm)
  unfold bytesOf
  have : (zs.map fun n => UInt8.ofNat n.toNat).getD i 0 = UInt8.ofNat (zs.getD i 0).toNat := by
    simp [List.getD_eq_getElem?_getD, List.getElem?_eq_getElem hi]
  rw [this]
  generalize zs.getD i 0 = n at hb
  congr 1
  show n = ((n.toNat.toUInt8).toNat : Int)
  rw [u8n (by omega)]
  omega

set_option maxRecDepth 100000 in
theorem rows_lifted (os : Os) (started : os.Started) (H : Type) (enc : TypeId × Value → H) :
    ReturnsInTold none {} Tryf.checked os 3 .any Input.okWide ((OpenSpec.ofChange Rows.fnSplitRowsGivesEachGroupItsRowsSpec).preRow enc Tryf.prog Tryf.f3 [] false []) (fun F => ((OpenSpec.ofChange Rows.fnSplitRowsGivesEachGroupItsRowsSpec).at F).post enc Tryf.prog Tryf.f3 false true false false) (aloneAtReturn Tryf.prog) nothingAlways := by
  refine returnsInTold_of_row (C := Tryf.checked) (s := OpenSpec.ofChange Rows.fnSplitRowsGivesEachGroupItsRowsSpec) (by kernel_rfl) own started (by kernel_rfl) Tryf.func3
    (OpenSpec.witness_stopped (enc := enc) (C := Tryf.checked) false ⟨#[], #[.string ByteArray.empty, .string ByteArray.empty, .slice none 0 0, .int .i64 0, .slice none 0 0, .slice none 0 0], []⟩ 8 (by kernel_rfl) (by kernel_rfl) (by kernel_rfl) (by kernel_rfl)) ?_
  intro F W base args ds gs before _ hF hval0 hW _ _ _ _ _
  have hval : ∀ (j : Nat) t v, Tryf.f3.params[j]? = some t → args[j]? = some v → Value.okWide Tryf.prog W .any base t v := hval0
  have hW' := hW
  obtain ⟨p, q, hA0, hV, rfl, hfz, hnd⟩ := hW
  have hA : DataW.TrodAll enc Tryf.prog W 0 (fun _ => true) true Tryf.f3.params.toList args.toList ds p := hA0
  rw [Tryf.params3] at hA hval
  obtain ⟨v0, vs0, d0, ds0, p0, q0, hargs, rfl, rfl, h0, r0⟩ := trodAll_cons hA
  obtain ⟨v1, vs1, d1, ds1, p1, q1, rfl, rfl, rfl, h1, r1⟩ := trodAll_cons r0
  obtain ⟨v2, vs2, d2, ds2, p2, q2, rfl, rfl, rfl, h2, r2⟩ := trodAll_cons r1
  obtain ⟨v3, vs3, d3, ds3, p3, q3, rfl, rfl, rfl, h3, r3⟩ := trodAll_cons r2
  obtain ⟨v4, vs4, d4, ds4, p4, q4, rfl, rfl, rfl, h4, r4⟩ := trodAll_cons r3
  obtain ⟨v5, vs5, d5, ds5, p5, q5, rfl, rfl, rfl, h5, r5⟩ := trodAll_cons r4
  obtain ⟨rfl, rfl, rfl⟩ := trodAll_nil r5
  obtain rfl : args = #[v0, v1, v2, v3, v4, v5] := by cases args; simp_all
  obtain ⟨rfl, rfl⟩ := trodVars_none hV
  have lt2 : ∀ x ∈ p2, x.block < W.heap.size := by obtain ⟨m, hm⟩ := h2; exact DataW.trod_lt m _ _ _ hm
  have lt4 : ∀ x ∈ p4, x.block < W.heap.size := by obtain ⟨m, hm⟩ := h4; exact DataW.trod_lt m _ _ _ hm
  have lt5 : ∀ x ∈ p5, x.block < W.heap.size := by obtain ⟨m, hm⟩ := h5; exact DataW.trod_lt m _ _ _ hm
  obtain ⟨db, rfl, rfl, rfl, hdb⟩ := open_string Tryf.underlying9 (hval 0 9 v0 rfl rfl) h0
  obtain ⟨nm, rfl, rfl, rfl, hnm⟩ := open_string Tryf.underlying9 (hval 1 9 v1 rfl rfl) h1
  obtain ⟨rowz, rfl, rfl, rfl, hrw⟩ := open_int Tryf.underlying3 (hval 3 3 v3 rfl rfl) h3
  obtain ⟨a2, nw, cw, rfl⟩ := okWide_slice Tryf.underlying22 (hval 2 22 v2 rfl rfl)
  obtain ⟨a4, nd, cd, rfl⟩ := okWide_slice Tryf.underlying23 (hval 4 23 v4 rfl rfl)
  obtain ⟨a5, ng, cg, rfl⟩ := okWide_slice Tryf.underlying24 (hval 5 24 v5 rfl rfl)
  obtain ⟨wd, hwd, hwl⟩ : ∃ wd : Nat → Int, At W.heap.size W a2 nw (fun i => .int .i64 (wd i)) ∧ nw ≤ maxLen := by
    obtain ⟨fuel, hf⟩ := h2
    rcases open_ints Tryf.underlying22 Tryf.underlying3 (by kernel_rfl) hf with ⟨hcs, _⟩ | ⟨a, l, c, ns, hcs, _, hl, hm, hzl, _, hcell, hws⟩
    · simp [Value.cells] at hcs
      obtain ⟨rfl, rfl, rfl⟩ := hcs
      exact ⟨fun _ => 0, fun i hi => by omega, by simp [maxLen]⟩
    · simp [Value.cells] at hcs
      obtain ⟨rfl, rfl, rfl⟩ := hcs
      have hzc : ns.length = cw := by simpa using hzl
      exact ⟨fun i => ns.getD i 0, at_of_add (fun i hi => hcell i (by omega)), by omega⟩
  obtain ⟨da, dn, dc, L, hdr, hdl, hds, hdb2⟩ : ∃ (da : Nat → Option Addr) (dn dc : Nat → Nat) (L : Nat → List UInt8), At W.heap.size W a4 nd (fun s => .slice (da s) (dn s) (dc s)) ∧ nd ≤ maxLen ∧ (∀ s, s < nd → dn s = (L s).length ∧ dn s ≤ dc s ∧ dn s ≤ maxLen) ∧ ∀ s, s < nd → At W.heap.size W (da s) (dn s) (bytesOf (L s)) := by
    obtain ⟨fuel, hf⟩ := h4
    rcases Deep.open_int_rows Tryf.underlying23 Tryf.underlying26 Tryf.underlying5 (by kernel_rfl) (by kernel_rfl) hf with ⟨hcs, _⟩ | ⟨x, l, c, A, N, C, Z, hcs, _, hl, hm, _, hcell⟩
    · simp [Value.cells] at hcs
      obtain ⟨rfl, rfl, rfl⟩ := hcs
      exact ⟨fun _ => none, fun _ => 0, fun _ => 0, fun _ => [], fun i hi => by omega, by simp [maxLen], fun i hi => by omega, fun i hi => by omega⟩
    · simp [Value.cells] at hcs
      obtain ⟨rfl, rfl, rfl⟩ := hcs
      refine ⟨A, N, C, fun s => ((Z s).take (N s)).map fun n => UInt8.ofNat n.toNat, at_of_add (fun i hi => (hcell i (by omega)).1), by omega, fun s hs => ?_, fun s hs => ?_⟩
      · obtain ⟨_, k1, k2, k3, _⟩ := hcell s (by omega)
        refine ⟨?_, k1, by omega⟩
        rw [List.length_map, List.length_take]
        omega
      · obtain ⟨_, k1, k2, k3, k4, k5, k6⟩ := hcell s (by omega)
        cases hA : A s with
        | none =>
          have := k5 hA
          intro i hi
          omega
        | some a' =>
          refine at_of_add (fun i hi => ?_)
          rw [(k6 a' hA).2 i (by omega)]
          have ht := bytes_of_nums ((Z s).take (N s)) (fun n hn => k4 n (List.mem_of_mem_take hn)) i (by rw [List.length_take]; omega)
          rw [← ht]
          congr 2
          rw [List.getD_eq_getElem?_getD, List.getD_eq_getElem?_getD, List.getElem?_take, if_pos hi]
  obtain ⟨ga, gn, gc, z, hgr, hgl, hgs, hin⟩ : ∃ (ga : Nat → Option Addr) (gn gc : Nat → Nat) (z : Nat → Nat → Int), At W.heap.size W a5 ng (fun g => .slice (ga g) (gn g) (gc g)) ∧ ng ≤ maxLen ∧ (∀ g, g < ng → gn g ≤ maxLen) ∧ ∀ g, g < ng → At W.heap.size W (ga g) (gn g) fun i => .int .i64 (z g i) := by
    obtain ⟨fuel, hf⟩ := h5
    rcases Deep.open_int_rows Tryf.underlying24 Tryf.underlying22 Tryf.underlying3 (by kernel_rfl) (by kernel_rfl) hf with ⟨hcs, _⟩ | ⟨x, l, c, A, L, C, Z, hcs, _, hl, hm, _, hcell⟩
    · simp [Value.cells] at hcs
      obtain ⟨rfl, rfl, rfl⟩ := hcs
      exact ⟨fun _ => none, fun _ => 0, fun _ => 0, fun _ _ => 0, fun i hi => by omega, by simp [maxLen], fun i hi => by omega, fun i hi => by omega⟩
    · simp [Value.cells] at hcs
      obtain ⟨rfl, rfl, rfl⟩ := hcs
      refine ⟨A, L, C, fun g i => (Z g).getD i 0, at_of_add (fun i hi => (hcell i (by omega)).1), by omega, fun g hg => ?_, fun g hg => ?_⟩
      · have := hcell g (by omega); omega
      · obtain ⟨_, k1, k2, k3, k4, k5, k6⟩ := hcell g (by omega)
        cases hA : A g with
        | none =>
          have := k5 hA
          intro i hi
          omega
        | some a' => exact at_of_add (fun i hi => (k6 a' hA).2 i (by omega))
  clear hA0 hval0
  unfold maxLen at hwl hdl hds hgl hgs
  have hdb' : db.size ≤ 9223372036854775807 := hdb
  have hnm' : nm.size ≤ 9223372036854775807 := hnm
  refine (law3 F.told W db nm nw wd rowz a4 nd cd da dn dc L a5 ng cg ga gn gc z a2 cw hF ⟨hwd, hdr, hds, hdb2, hgr, hgs, hin⟩ hdb' hnm' hwl hdl hgl).mono fun e W' ⟨he, bel⟩ => ?_
  subst he
  exact ⟨_, rfl, _, _, _, [], _, [], hW', trodAll_mk1 (shut_bool Tryf.underlying4 _), (trodAll_cons_mk (shut_string Tryf.underlying9 hdb) (trodAll_cons_mk (shut_string Tryf.underlying9 hnm) (trodAll_cons_mk (Below.trod laidOut (by kernel_rfl) (of_decide_eq_true (by kernel_rfl)) h2 bel lt2) (trodAll_cons_mk (shut_int Tryf.underlying3 hrw) (trodAll_cons_mk (Below.trod laidOut (by kernel_rfl) (of_decide_eq_true (by kernel_rfl)) h4 bel lt4) (trodAll_cons_mk (Below.trod laidOut (by kernel_rfl) (of_decide_eq_true (by kernel_rfl)) h5 bel lt5) trodAll_mk0)))))), rfl, bel.frame _, fun h => by cases h⟩

theorem rows_proved : Rows.FnSplitRowsGivesEachGroupItsRowsToldSaid :=
  Claim7.holds_of_told_any 3 Tryf.f3 _ _ [] _ _ _ (by kernel_rfl) rfl rfl rfl laidOutP (by kernel_rfl) rfl ⟨rfl, rfl, rfl, rfl, rfl, rfl, rfl⟩ rfl rfl (by kernel_rfl) (by kernel_rfl) Tryf.func3 (by kernel_rfl)
    (of_decide_eq_true (by kernel_rfl)) (of_decide_eq_true (by kernel_rfl)) stopsP.symm rfl stopKnobsP.symm (by kernel_rfl)
    (by kernel_rfl) (by kernel_rfl) (by kernel_rfl) (by kernel_rfl) (by kernel_rfl) (by kernel_rfl) (by kernel_rfl) (by kernel_rfl) (by kernel_rfl) rfl (by kernel_rfl) rfl rfl
    rfl rfl
    rfl (by kernel_rfl) (by kernel_rfl) (by kernel_rfl) (by decide) (by kernel_rfl)
    (OpenClaim.moreEntering_of (by kernel_rfl) (by kernel_rfl) (by kernel_rfl) (by kernel_rfl) (by kernel_rfl) (by kernel_rfl) (by kernel_rfl) (by kernel_rfl) (by kernel_rfl) (by kernel_rfl))
    ⟨_, WideRow.started_initial, quietP _⟩
    (fun os started _ H enc _ => rows_lifted os started H enc)
#print axioms rows_proved
end Go.Proofs.Qxb6615609aFmt
