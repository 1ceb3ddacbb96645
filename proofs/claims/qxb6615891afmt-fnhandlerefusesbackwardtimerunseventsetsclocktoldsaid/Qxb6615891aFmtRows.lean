/-
  No cell of these rows narrows 'for every input' (looked for: loops, veiled, ifaces, maps, wideKeys, modest, calm, conditions, laid).
  DERIVED. THE GIVEN ROWS OF THIS SEAT. 3 by the template 'for every input the law returns true; each argument reads behind the call as it read before'; 0 by the template 'total and deterministic' (their statements: Qxb6615891aFmtTotals.lean).
  GIVEN WITH THE SEED: the statements are not yours to turn. If you find one false, say at which input.
  Laid BY PROGRAM, IN A SANDBOX (cutbox-rows.mjs): the forced cells as the released guide's own fill.sh prints them over the translation e583e5a152798f63… (all of the seat's roots in one cut). By AI agents, Wed Nov 11 2026. No macro, syntax, notation, axiom, sorry.
-/
import Derived.Test.Qxb6615891aFmtChecked
import GoSem.Claim
import GoSem.ClaimJoined
import GoSem.ClaimMapViews
import Derived.JoinedTies
import Derived.KernelRfl
namespace Go.Proofs.Qxb6615891aFmt
/- THE CELL 'sum', in the pinned program and in every row, IS THE sha256 OF THE DUMP (.gsa) THAT Qxb6615891aFmtProg.lean LOADS. Nothing in Lean hashes anything: it is a label: what it is worth is what the hold of that sum in a sandbox is worth. -/
noncomputable def Tryf.pinned : Pinned := { name := "qxb6615891afmt", sum := "e583e5a152798f63c4caa60981416e611579473c0f4b5e44ba22a65e0532d340", checked := Tryf.checked }
namespace Rows
def none {H : Type} : Left H := { results := [], args := [] }

/-- 'zzlaws_root_b1.FnKnownIsExactlyTheModesNewAccepts': WHATEVER THE INPUT: true; the input reads as it did. -/
def fnKnownIsExactlyTheModesNewAcceptsSpec : ChangeSpec := { name := "fnKnownIsExactlyTheModesNewAccepts", fn := fun _ => fun
  | [d] => { results := [.lit (.bool true)], args := [d] }
  | _ => none }
def fnKnownIsExactlyTheModesNewAcceptsRow : OpenClaim := { program := "qxb6615891afmt", sum := "e583e5a152798f63c4caa60981416e611579473c0f4b5e44ba22a65e0532d340", func := "example.com/ringback/ringback/zzlaws_root_b1.FnKnownIsExactlyTheModesNewAccepts", spec := "fnKnownIsExactlyTheModesNewAccepts", stops := ["fmt.errorf, its operands' methods called", "fmt.Sprintf"], inPlace := ["fmt.errorf"], unfollowed := true, recurses := true, plainKeys := false, apart := false }
/-- NO THEOREM (fmt's text is open here; it may be false): for the released tool's asking of the row's closed facts alone. THE STATEMENT IS 'FnKnownIsExactlyTheModesNewAcceptsToldSaid' (Qxb6615891aFmtCards.lean). -/
def FnKnownIsExactlyTheModesNewAcceptsFormAsk : Prop := fnKnownIsExactlyTheModesNewAcceptsRow.holds Tryf.pinned (OpenSpec.ofChange fnKnownIsExactlyTheModesNewAcceptsSpec)

/-- ITS FALSE NEIGHBOUR: 'it returns false'. Refute it at one input. -/
def fnKnownIsExactlyTheModesNewAcceptsWrong : ChangeSpec := { name := "fnKnownIsExactlyTheModesNewAccepts", fn := fun _ => fun
  | [d] => { results := [.lit (.bool false)], args := [d] }
  | _ => none }
def FnKnownIsExactlyTheModesNewAcceptsWrongFormAsk : Prop := fnKnownIsExactlyTheModesNewAcceptsRow.holds Tryf.pinned (OpenSpec.ofChange fnKnownIsExactlyTheModesNewAcceptsWrong)

/-- 'zzlaws_root_b1.FnHandleRefusesBackwardTimeRunsEventSetsClock': WHATEVER THE INPUT: true; the input reads as it did. -/
def fnHandleRefusesBackwardTimeRunsEventSetsClockSpec : ChangeSpec := { name := "fnHandleRefusesBackwardTimeRunsEventSetsClock", fn := fun _ => fun
  | [d1, d2, d3, d4, d5, d6] => { results := [.lit (.bool true)], args := [d1, d2, d3, d4, d5, d6] }
  | _ => none }
def fnHandleRefusesBackwardTimeRunsEventSetsClockRow : OpenClaim := { program := "qxb6615891afmt", sum := "e583e5a152798f63c4caa60981416e611579473c0f4b5e44ba22a65e0532d340", func := "example.com/ringback/ringback/zzlaws_root_b1.FnHandleRefusesBackwardTimeRunsEventSetsClock", spec := "fnHandleRefusesBackwardTimeRunsEventSetsClock", stops := ["fmt.errorf, its operands' methods called", "fmt.Sprintf"], inPlace := ["fmt.errorf"], unfollowed := true, recurses := true, plainKeys := false, apart := false }
/-- NO THEOREM (fmt's text is open here; it may be false): for the released tool's asking of the row's closed facts alone. THE STATEMENT IS 'FnHandleRefusesBackwardTimeRunsEventSetsClockToldSaid' (Qxb6615891aFmtCards.lean). -/
def FnHandleRefusesBackwardTimeRunsEventSetsClockFormAsk : Prop := fnHandleRefusesBackwardTimeRunsEventSetsClockRow.holds Tryf.pinned (OpenSpec.ofChange fnHandleRefusesBackwardTimeRunsEventSetsClockSpec)

/-- ITS FALSE NEIGHBOUR: 'it returns false'. Refute it at one input. -/
def fnHandleRefusesBackwardTimeRunsEventSetsClockWrong : ChangeSpec := { name := "fnHandleRefusesBackwardTimeRunsEventSetsClock", fn := fun _ => fun
  | [d1, d2, d3, d4, d5, d6] => { results := [.lit (.bool false)], args := [d1, d2, d3, d4, d5, d6] }
  | _ => none }
def FnHandleRefusesBackwardTimeRunsEventSetsClockWrongFormAsk : Prop := fnHandleRefusesBackwardTimeRunsEventSetsClockRow.holds Tryf.pinned (OpenSpec.ofChange fnHandleRefusesBackwardTimeRunsEventSetsClockWrong)

/-- 'zzlaws_root_b1.FnHandleClockIsRunningMaxOfAcceptedTimes': WHATEVER THE INPUT: true; the input reads as it did. -/
def fnHandleClockIsRunningMaxOfAcceptedTimesSpec : ChangeSpec := { name := "fnHandleClockIsRunningMaxOfAcceptedTimes", fn := fun _ => fun
  | [d1, d2, d3] => { results := [.lit (.bool true)], args := [d1, d2, d3] }
  | _ => none }
def fnHandleClockIsRunningMaxOfAcceptedTimesRow : OpenClaim := { program := "qxb6615891afmt", sum := "e583e5a152798f63c4caa60981416e611579473c0f4b5e44ba22a65e0532d340", func := "example.com/ringback/ringback/zzlaws_root_b1.FnHandleClockIsRunningMaxOfAcceptedTimes", spec := "fnHandleClockIsRunningMaxOfAcceptedTimes", stops := ["fmt.errorf, its operands' methods called", "fmt.Sprintf"], inPlace := ["fmt.errorf"], unfollowed := true, recurses := true, plainKeys := false, apart := false }
/-- NO THEOREM (fmt's text is open here; it may be false): for the released tool's asking of the row's closed facts alone. THE STATEMENT IS 'FnHandleClockIsRunningMaxOfAcceptedTimesToldSaid' (Qxb6615891aFmtCards.lean). -/
def FnHandleClockIsRunningMaxOfAcceptedTimesFormAsk : Prop := fnHandleClockIsRunningMaxOfAcceptedTimesRow.holds Tryf.pinned (OpenSpec.ofChange fnHandleClockIsRunningMaxOfAcceptedTimesSpec)

/-- ITS FALSE NEIGHBOUR: 'it returns false'. Refute it at one input. -/
def fnHandleClockIsRunningMaxOfAcceptedTimesWrong : ChangeSpec := { name := "fnHandleClockIsRunningMaxOfAcceptedTimes", fn := fun _ => fun
  | [d1, d2, d3] => { results := [.lit (.bool false)], args := [d1, d2, d3] }
  | _ => none }
def FnHandleClockIsRunningMaxOfAcceptedTimesWrongFormAsk : Prop := fnHandleClockIsRunningMaxOfAcceptedTimesRow.holds Tryf.pinned (OpenSpec.ofChange fnHandleClockIsRunningMaxOfAcceptedTimesWrong)

end Rows
end Go.Proofs.Qxb6615891aFmt
