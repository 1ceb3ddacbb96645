/-
  No cell of these rows narrows 'for every input' (looked for: loops, veiled, ifaces, maps, wideKeys, modest, calm, conditions, laid).
  DERIVED. THE GIVEN ROWS OF THIS SEAT. 2 by the template 'for every input the law returns true; each argument reads behind the call as it read before'; 0 by the template 'total and deterministic' (their statements: Qxb6615609aFmtTotals.lean).
  GIVEN WITH THE SEED: the statements are not yours to turn. If you find one false, say at which input.
  Laid BY PROGRAM, IN A SANDBOX (cutbox-rows.mjs): the forced cells as the released guide's own fill.sh prints them over the translation 24806876d5ae1139… (all of the seat's roots in one cut). By AI agents, Wed Nov 11 2026. No macro, syntax, notation, axiom, sorry.
-/
import Derived.Test.Qxb6615609aFmtChecked
import GoSem.Claim
import GoSem.ClaimJoined
import GoSem.ClaimMapViews
import Derived.JoinedTies
import Derived.KernelRfl
namespace Go.Proofs.Qxb6615609aFmt
/- THE CELL 'sum', in the pinned program and in every row, IS THE sha256 OF THE DUMP (.gsa) THAT Qxb6615609aFmtProg.lean LOADS. Nothing in Lean hashes anything: it is a label: what it is worth is what the hold of that sum in a sandbox is worth. -/
noncomputable def Tryf.pinned : Pinned := { name := "qxb6615609afmt", sum := "24806876d5ae1139504abdbfe4187dc4f7a8763a8af87966ec7d5cc321a2f1fe", checked := Tryf.checked }
namespace Rows
def none {H : Type} : Left H := { results := [], args := [] }

/-- 'zzlaws_internal_clickhouse_b1.FnSplitRowsGivesEachGroupItsRows': WHATEVER THE INPUT: true; the input reads as it did. -/
def fnSplitRowsGivesEachGroupItsRowsSpec : ChangeSpec := { name := "fnSplitRowsGivesEachGroupItsRows", fn := fun _ => fun
  | [d1, d2, d3, d4, d5, d6] => { results := [.lit (.bool true)], args := [d1, d2, d3, d4, d5, d6] }
  | _ => none }
def fnSplitRowsGivesEachGroupItsRowsRow : OpenClaim := { program := "qxb6615609afmt", sum := "24806876d5ae1139504abdbfe4187dc4f7a8763a8af87966ec7d5cc321a2f1fe", func := "example.com/tidemark/tidemark/zzlaws_internal_clickhouse_b1.FnSplitRowsGivesEachGroupItsRows", spec := "fnSplitRowsGivesEachGroupItsRows", stops := ["fmt.errorf, its operands' methods called"], inPlace := ["fmt.errorf"], unfollowed := true, recurses := true, apart := false }
/-- NO THEOREM (fmt's text is open here; it may be false): for the released tool's asking of the row's closed facts alone. THE STATEMENT IS 'FnSplitRowsGivesEachGroupItsRowsToldSaid' (Qxb6615609aFmtCards.lean). -/
def FnSplitRowsGivesEachGroupItsRowsFormAsk : Prop := fnSplitRowsGivesEachGroupItsRowsRow.holds Tryf.pinned (OpenSpec.ofChange fnSplitRowsGivesEachGroupItsRowsSpec)

/-- ITS FALSE NEIGHBOUR: 'it returns false'. Refute it at one input. -/
def fnSplitRowsGivesEachGroupItsRowsWrong : ChangeSpec := { name := "fnSplitRowsGivesEachGroupItsRows", fn := fun _ => fun
  | [d1, d2, d3, d4, d5, d6] => { results := [.lit (.bool false)], args := [d1, d2, d3, d4, d5, d6] }
  | _ => none }
def FnSplitRowsGivesEachGroupItsRowsWrongFormAsk : Prop := fnSplitRowsGivesEachGroupItsRowsRow.holds Tryf.pinned (OpenSpec.ofChange fnSplitRowsGivesEachGroupItsRowsWrong)

/-- 'zzlaws_internal_clickhouse_b1.FnSplitRowsRegroupsTextsThatAppendTextWrote': WHATEVER THE INPUT: true; the input reads as it did. -/
def fnSplitRowsRegroupsTextsThatAppendTextWroteSpec : ChangeSpec := { name := "fnSplitRowsRegroupsTextsThatAppendTextWrote", fn := fun _ => fun
  | [d1, d2, d3, d4] => { results := [.lit (.bool true)], args := [d1, d2, d3, d4] }
  | _ => none }
def fnSplitRowsRegroupsTextsThatAppendTextWroteRow : OpenClaim := { program := "qxb6615609afmt", sum := "24806876d5ae1139504abdbfe4187dc4f7a8763a8af87966ec7d5cc321a2f1fe", func := "example.com/tidemark/tidemark/zzlaws_internal_clickhouse_b1.FnSplitRowsRegroupsTextsThatAppendTextWrote", spec := "fnSplitRowsRegroupsTextsThatAppendTextWrote", stops := ["fmt.errorf, its operands' methods called"], inPlace := ["fmt.errorf"], unfollowed := true, recurses := true, apart := false }
/-- NO THEOREM (fmt's text is open here; it may be false): for the released tool's asking of the row's closed facts alone. THE STATEMENT IS 'FnSplitRowsRegroupsTextsThatAppendTextWroteToldSaid' (Qxb6615609aFmtCards.lean). -/
def FnSplitRowsRegroupsTextsThatAppendTextWroteFormAsk : Prop := fnSplitRowsRegroupsTextsThatAppendTextWroteRow.holds Tryf.pinned (OpenSpec.ofChange fnSplitRowsRegroupsTextsThatAppendTextWroteSpec)

/-- ITS FALSE NEIGHBOUR: 'it returns false'. Refute it at one input. -/
def fnSplitRowsRegroupsTextsThatAppendTextWroteWrong : ChangeSpec := { name := "fnSplitRowsRegroupsTextsThatAppendTextWrote", fn := fun _ => fun
  | [d1, d2, d3, d4] => { results := [.lit (.bool false)], args := [d1, d2, d3, d4] }
  | _ => none }
def FnSplitRowsRegroupsTextsThatAppendTextWroteWrongFormAsk : Prop := fnSplitRowsRegroupsTextsThatAppendTextWroteRow.holds Tryf.pinned (OpenSpec.ofChange fnSplitRowsRegroupsTextsThatAppendTextWroteWrong)

end Rows
end Go.Proofs.Qxb6615609aFmt
