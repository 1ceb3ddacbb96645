/-
  DERIVED. GIVEN WITH THE SEED: THE CARDS: each row of Qxb6615891aFmtRows.lean that lists a variable, with what it lists TIED to the program's text (the seventh form; the later family's looks); each row that meets fmt, with fmt's text TOLD by the authors' own Lean function (tested against real Go, not proved from fmt's source: count such statements apart). THE CARD IS WHAT COUNTS. Prove the row's statement (the work); the ties are given (Qxb6615891aFmtTie.lean); close each card by the builder's one call (the guide's Derived/Test/ToyasCard.lean, 'card_holds'). Laid BY PROGRAM, IN A SANDBOX (cutbox-door.mjs). By AI agents, Wed Nov 11 2026. No macro, syntax, notation, axiom, sorry.
-/
import Derived.Test.Qxb6615891aFmtRows
import GoSem.ClaimSeven
namespace Go.Proofs.Qxb6615891aFmt
namespace Rows

/-- THE TOLD CARD OF 'zzlaws_root_b1.FnKnownIsExactlyTheModesNewAccepts'. -/
def fnKnownIsExactlyTheModesNewAcceptsCard : Claim7 := { stood := { row := fnKnownIsExactlyTheModesNewAcceptsRow, standIns := [], harness := (true, "834db804828afb9f830cc91e2f08c7fc9b3c93bc28077f75673fa6604c5a6bd2"), looks := true }, told := true, goes := false }
def FnKnownIsExactlyTheModesNewAcceptsToldSaid : Prop := Claim7.holds Tryf.pinned (.plain (OpenSpec.ofChange fnKnownIsExactlyTheModesNewAcceptsSpec)) fnKnownIsExactlyTheModesNewAcceptsCard
/-- ITS FALSE NEIGHBOUR. Refute it at one input. -/
def FnKnownIsExactlyTheModesNewAcceptsToldWrongFalsely : Prop := Claim7.holds Tryf.pinned (.plain (OpenSpec.ofChange fnKnownIsExactlyTheModesNewAcceptsWrong)) fnKnownIsExactlyTheModesNewAcceptsCard

/-- THE TOLD CARD OF 'zzlaws_root_b1.FnHandleRefusesBackwardTimeRunsEventSetsClock'. -/
def fnHandleRefusesBackwardTimeRunsEventSetsClockCard : Claim7 := { stood := { row := fnHandleRefusesBackwardTimeRunsEventSetsClockRow, standIns := [], harness := (true, "834db804828afb9f830cc91e2f08c7fc9b3c93bc28077f75673fa6604c5a6bd2"), looks := true }, told := true, goes := false }
def FnHandleRefusesBackwardTimeRunsEventSetsClockToldSaid : Prop := Claim7.holds Tryf.pinned (.plain (OpenSpec.ofChange fnHandleRefusesBackwardTimeRunsEventSetsClockSpec)) fnHandleRefusesBackwardTimeRunsEventSetsClockCard
/-- ITS FALSE NEIGHBOUR. Refute it at one input. -/
def FnHandleRefusesBackwardTimeRunsEventSetsClockToldWrongFalsely : Prop := Claim7.holds Tryf.pinned (.plain (OpenSpec.ofChange fnHandleRefusesBackwardTimeRunsEventSetsClockWrong)) fnHandleRefusesBackwardTimeRunsEventSetsClockCard

/-- THE TOLD CARD OF 'zzlaws_root_b1.FnHandleClockIsRunningMaxOfAcceptedTimes'. -/
def fnHandleClockIsRunningMaxOfAcceptedTimesCard : Claim7 := { stood := { row := fnHandleClockIsRunningMaxOfAcceptedTimesRow, standIns := [], harness := (true, "834db804828afb9f830cc91e2f08c7fc9b3c93bc28077f75673fa6604c5a6bd2"), looks := true }, told := true, goes := false }
def FnHandleClockIsRunningMaxOfAcceptedTimesToldSaid : Prop := Claim7.holds Tryf.pinned (.plain (OpenSpec.ofChange fnHandleClockIsRunningMaxOfAcceptedTimesSpec)) fnHandleClockIsRunningMaxOfAcceptedTimesCard
/-- ITS FALSE NEIGHBOUR. Refute it at one input. -/
def FnHandleClockIsRunningMaxOfAcceptedTimesToldWrongFalsely : Prop := Claim7.holds Tryf.pinned (.plain (OpenSpec.ofChange fnHandleClockIsRunningMaxOfAcceptedTimesWrong)) fnHandleClockIsRunningMaxOfAcceptedTimesCard
end Rows
end Go.Proofs.Qxb6615891aFmt
