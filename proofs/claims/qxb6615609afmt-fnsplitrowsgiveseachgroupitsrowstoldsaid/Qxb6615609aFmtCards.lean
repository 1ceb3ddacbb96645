/-
  DERIVED. GIVEN WITH THE SEED: THE CARDS: each row of Qxb6615609aFmtRows.lean that lists a variable, with what it lists TIED to the program's text (the seventh form; the later family's looks); each row that meets fmt, with fmt's text TOLD by the authors' own Lean function (tested against real Go, not proved from fmt's source: count such statements apart). THE CARD IS WHAT COUNTS. Prove the row's statement (the work); the ties are given (Qxb6615609aFmtTie.lean); close each card by the builder's one call (the guide's Derived/Test/ToyasCard.lean, 'card_holds'). Laid BY PROGRAM, IN A SANDBOX (cutbox-door.mjs). By AI agents, Wed Nov 11 2026. No macro, syntax, notation, axiom, sorry.
-/
import Derived.Test.Qxb6615609aFmtRows
import GoSem.ClaimSeven
namespace Go.Proofs.Qxb6615609aFmt
namespace Rows

/-- THE TOLD CARD OF 'zzlaws_internal_clickhouse_b1.FnSplitRowsGivesEachGroupItsRows'. -/
def fnSplitRowsGivesEachGroupItsRowsCard : Claim7 := { stood := { row := fnSplitRowsGivesEachGroupItsRowsRow, standIns := [], harness := (true, "d31480e7e6af3b2609888245e612af0d5c0a59adac95aeccd58191181263f144"), looks := false }, told := true, goes := false }
def FnSplitRowsGivesEachGroupItsRowsToldSaid : Prop := Claim7.holds Tryf.pinned (.plain (OpenSpec.ofChange fnSplitRowsGivesEachGroupItsRowsSpec)) fnSplitRowsGivesEachGroupItsRowsCard
/-- ITS FALSE NEIGHBOUR. Refute it at one input. -/
def FnSplitRowsGivesEachGroupItsRowsToldWrongFalsely : Prop := Claim7.holds Tryf.pinned (.plain (OpenSpec.ofChange fnSplitRowsGivesEachGroupItsRowsWrong)) fnSplitRowsGivesEachGroupItsRowsCard

/-- THE TOLD CARD OF 'zzlaws_internal_clickhouse_b1.FnSplitRowsRegroupsTextsThatAppendTextWrote'. -/
def fnSplitRowsRegroupsTextsThatAppendTextWroteCard : Claim7 := { stood := { row := fnSplitRowsRegroupsTextsThatAppendTextWroteRow, standIns := [], harness := (true, "d31480e7e6af3b2609888245e612af0d5c0a59adac95aeccd58191181263f144"), looks := false }, told := true, goes := false }
def FnSplitRowsRegroupsTextsThatAppendTextWroteToldSaid : Prop := Claim7.holds Tryf.pinned (.plain (OpenSpec.ofChange fnSplitRowsRegroupsTextsThatAppendTextWroteSpec)) fnSplitRowsRegroupsTextsThatAppendTextWroteCard
/-- ITS FALSE NEIGHBOUR. Refute it at one input. -/
def FnSplitRowsRegroupsTextsThatAppendTextWroteToldWrongFalsely : Prop := Claim7.holds Tryf.pinned (.plain (OpenSpec.ofChange fnSplitRowsRegroupsTextsThatAppendTextWroteWrong)) fnSplitRowsRegroupsTextsThatAppendTextWroteCard
end Rows
end Go.Proofs.Qxb6615609aFmt
