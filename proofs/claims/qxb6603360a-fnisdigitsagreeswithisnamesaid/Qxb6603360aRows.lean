/-
  No cell of these rows narrows 'for every input' (looked for: loops, veiled, ifaces, maps, wideKeys, modest, calm, conditions, laid).
  DERIVED. THE GIVEN ROWS OF THIS SEAT. 8 by the template 'for every input the law returns true; each argument reads behind the call as it read before'; 0 by the template 'total and deterministic' (their statements: Qxb6603360aTotals.lean).
  GIVEN WITH THE SEED: the statements are not yours to turn. If you find one false, say at which input.
  Laid BY PROGRAM, IN A SANDBOX (cutbox-rows.mjs): the forced cells as the released guide's own fill.sh prints them over the translation 5cd2b5506d8987e2… (all of the seat's roots in one cut). By AI agents, Wed Nov 11 2026. No macro, syntax, notation, axiom, sorry.
-/
import Derived.Test.Qxb6603360aChecked
import GoSem.Claim
import GoSem.ClaimJoined
import GoSem.ClaimMapViews
import Derived.JoinedTies
import Derived.KernelRfl
namespace Go.Proofs.Qxb6603360a
/- THE CELL 'sum', in the pinned program and in every row, IS THE sha256 OF THE DUMP (.gsa) THAT Qxb6603360aProg.lean LOADS. Nothing in Lean hashes anything: it is a label: what it is worth is what the hold of that sum in a sandbox is worth. -/
noncomputable def Try.pinned : Pinned := { name := "qxb6603360a", sum := "5cd2b5506d8987e21c113598c1f7fc3fdd57d41672e3700d0182109fca350289", checked := Try.checked }
namespace Rows
def none {H : Type} : Left H := { results := [], args := [] }

/-- 'zzlaws_root_b1.FnDaysInMatchesCivilCalendar': WHATEVER THE INPUT: true; the input reads as it did. -/
def fnDaysInMatchesCivilCalendarSpec : ChangeSpec := { name := "fnDaysInMatchesCivilCalendar", fn := fun _ => fun
  | [d1, d2] => { results := [.lit (.bool true)], args := [d1, d2] }
  | _ => none }
def fnDaysInMatchesCivilCalendarRow : OpenClaim := { program := "qxb6603360a", sum := "5cd2b5506d8987e21c113598c1f7fc3fdd57d41672e3700d0182109fca350289", func := "example.com/armslength/armslength/zzlaws_root_b1.FnDaysInMatchesCivilCalendar", spec := "fnDaysInMatchesCivilCalendar", apart := false }
def FnDaysInMatchesCivilCalendarSaid : Prop := fnDaysInMatchesCivilCalendarRow.holds Try.pinned (OpenSpec.ofChange fnDaysInMatchesCivilCalendarSpec)

/-- ITS FALSE NEIGHBOUR: 'it returns false'. Refute it at one input. -/
def fnDaysInMatchesCivilCalendarWrong : ChangeSpec := { name := "fnDaysInMatchesCivilCalendar", fn := fun _ => fun
  | [d1, d2] => { results := [.lit (.bool false)], args := [d1, d2] }
  | _ => none }
def FnDaysInMatchesCivilCalendarWrongFalsely : Prop := fnDaysInMatchesCivilCalendarRow.holds Try.pinned (OpenSpec.ofChange fnDaysInMatchesCivilCalendarWrong)

/-- 'zzlaws_root_b1.FnDaysInFourHundredYearCycle': WHATEVER THE INPUT: true; the input reads as it did. -/
def fnDaysInFourHundredYearCycleSpec : ChangeSpec := { name := "fnDaysInFourHundredYearCycle", fn := fun _ => fun
  | [d] => { results := [.lit (.bool true)], args := [d] }
  | _ => none }
def fnDaysInFourHundredYearCycleRow : OpenClaim := { program := "qxb6603360a", sum := "5cd2b5506d8987e21c113598c1f7fc3fdd57d41672e3700d0182109fca350289", func := "example.com/armslength/armslength/zzlaws_root_b1.FnDaysInFourHundredYearCycle", spec := "fnDaysInFourHundredYearCycle", apart := false }
def FnDaysInFourHundredYearCycleSaid : Prop := fnDaysInFourHundredYearCycleRow.holds Try.pinned (OpenSpec.ofChange fnDaysInFourHundredYearCycleSpec)

/-- ITS FALSE NEIGHBOUR: 'it returns false'. Refute it at one input. -/
def fnDaysInFourHundredYearCycleWrong : ChangeSpec := { name := "fnDaysInFourHundredYearCycle", fn := fun _ => fun
  | [d] => { results := [.lit (.bool false)], args := [d] }
  | _ => none }
def FnDaysInFourHundredYearCycleWrongFalsely : Prop := fnDaysInFourHundredYearCycleRow.holds Try.pinned (OpenSpec.ofChange fnDaysInFourHundredYearCycleWrong)

/-- 'zzlaws_root_b1.FnDaysInBoundedAndPeriodic': WHATEVER THE INPUT: true; the input reads as it did. -/
def fnDaysInBoundedAndPeriodicSpec : ChangeSpec := { name := "fnDaysInBoundedAndPeriodic", fn := fun _ => fun
  | [d1, d2] => { results := [.lit (.bool true)], args := [d1, d2] }
  | _ => none }
def fnDaysInBoundedAndPeriodicRow : OpenClaim := { program := "qxb6603360a", sum := "5cd2b5506d8987e21c113598c1f7fc3fdd57d41672e3700d0182109fca350289", func := "example.com/armslength/armslength/zzlaws_root_b1.FnDaysInBoundedAndPeriodic", spec := "fnDaysInBoundedAndPeriodic", apart := false }
def FnDaysInBoundedAndPeriodicSaid : Prop := fnDaysInBoundedAndPeriodicRow.holds Try.pinned (OpenSpec.ofChange fnDaysInBoundedAndPeriodicSpec)

/-- ITS FALSE NEIGHBOUR: 'it returns false'. Refute it at one input. -/
def fnDaysInBoundedAndPeriodicWrong : ChangeSpec := { name := "fnDaysInBoundedAndPeriodic", fn := fun _ => fun
  | [d1, d2] => { results := [.lit (.bool false)], args := [d1, d2] }
  | _ => none }
def FnDaysInBoundedAndPeriodicWrongFalsely : Prop := fnDaysInBoundedAndPeriodicRow.holds Try.pinned (OpenSpec.ofChange fnDaysInBoundedAndPeriodicWrong)

/-- 'zzlaws_root_b1.FnIsDigitsMatchesAlphabetModel': WHATEVER THE INPUT: true; the input reads as it did. -/
def fnIsDigitsMatchesAlphabetModelSpec : ChangeSpec := { name := "fnIsDigitsMatchesAlphabetModel", fn := fun _ => fun
  | [d] => { results := [.lit (.bool true)], args := [d] }
  | _ => none }
def fnIsDigitsMatchesAlphabetModelRow : OpenClaim := { program := "qxb6603360a", sum := "5cd2b5506d8987e21c113598c1f7fc3fdd57d41672e3700d0182109fca350289", func := "example.com/armslength/armslength/zzlaws_root_b1.FnIsDigitsMatchesAlphabetModel", spec := "fnIsDigitsMatchesAlphabetModel", apart := false }
def FnIsDigitsMatchesAlphabetModelSaid : Prop := fnIsDigitsMatchesAlphabetModelRow.holds Try.pinned (OpenSpec.ofChange fnIsDigitsMatchesAlphabetModelSpec)

/-- ITS FALSE NEIGHBOUR: 'it returns false'. Refute it at one input. -/
def fnIsDigitsMatchesAlphabetModelWrong : ChangeSpec := { name := "fnIsDigitsMatchesAlphabetModel", fn := fun _ => fun
  | [d] => { results := [.lit (.bool false)], args := [d] }
  | _ => none }
def FnIsDigitsMatchesAlphabetModelWrongFalsely : Prop := fnIsDigitsMatchesAlphabetModelRow.holds Try.pinned (OpenSpec.ofChange fnIsDigitsMatchesAlphabetModelWrong)

/-- 'zzlaws_root_b1.FnIsDigitsConcatenation': WHATEVER THE INPUT: true; the input reads as it did. -/
def fnIsDigitsConcatenationSpec : ChangeSpec := { name := "fnIsDigitsConcatenation", fn := fun _ => fun
  | [d1, d2] => { results := [.lit (.bool true)], args := [d1, d2] }
  | _ => none }
def fnIsDigitsConcatenationRow : OpenClaim := { program := "qxb6603360a", sum := "5cd2b5506d8987e21c113598c1f7fc3fdd57d41672e3700d0182109fca350289", func := "example.com/armslength/armslength/zzlaws_root_b1.FnIsDigitsConcatenation", spec := "fnIsDigitsConcatenation", apart := false }
def FnIsDigitsConcatenationSaid : Prop := fnIsDigitsConcatenationRow.holds Try.pinned (OpenSpec.ofChange fnIsDigitsConcatenationSpec)

/-- ITS FALSE NEIGHBOUR: 'it returns false'. Refute it at one input. -/
def fnIsDigitsConcatenationWrong : ChangeSpec := { name := "fnIsDigitsConcatenation", fn := fun _ => fun
  | [d1, d2] => { results := [.lit (.bool false)], args := [d1, d2] }
  | _ => none }
def FnIsDigitsConcatenationWrongFalsely : Prop := fnIsDigitsConcatenationRow.holds Try.pinned (OpenSpec.ofChange fnIsDigitsConcatenationWrong)

/-- 'zzlaws_root_b1.FnIsDigitsAgreesWithIsName': WHATEVER THE INPUT: true; the input reads as it did. -/
def fnIsDigitsAgreesWithIsNameSpec : ChangeSpec := { name := "fnIsDigitsAgreesWithIsName", fn := fun _ => fun
  | [d] => { results := [.lit (.bool true)], args := [d] }
  | _ => none }
def fnIsDigitsAgreesWithIsNameRow : OpenClaim := { program := "qxb6603360a", sum := "5cd2b5506d8987e21c113598c1f7fc3fdd57d41672e3700d0182109fca350289", func := "example.com/armslength/armslength/zzlaws_root_b1.FnIsDigitsAgreesWithIsName", spec := "fnIsDigitsAgreesWithIsName", apart := false }
def FnIsDigitsAgreesWithIsNameSaid : Prop := fnIsDigitsAgreesWithIsNameRow.holds Try.pinned (OpenSpec.ofChange fnIsDigitsAgreesWithIsNameSpec)

/-- ITS FALSE NEIGHBOUR: 'it returns false'. Refute it at one input. -/
def fnIsDigitsAgreesWithIsNameWrong : ChangeSpec := { name := "fnIsDigitsAgreesWithIsName", fn := fun _ => fun
  | [d] => { results := [.lit (.bool false)], args := [d] }
  | _ => none }
def FnIsDigitsAgreesWithIsNameWrongFalsely : Prop := fnIsDigitsAgreesWithIsNameRow.holds Try.pinned (OpenSpec.ofChange fnIsDigitsAgreesWithIsNameWrong)

/-- 'zzlaws_root_b1.FnIsNameMatchesWordAutomaton': WHATEVER THE INPUT: true; the input reads as it did. -/
def fnIsNameMatchesWordAutomatonSpec : ChangeSpec := { name := "fnIsNameMatchesWordAutomaton", fn := fun _ => fun
  | [d] => { results := [.lit (.bool true)], args := [d] }
  | _ => none }
def fnIsNameMatchesWordAutomatonRow : OpenClaim := { program := "qxb6603360a", sum := "5cd2b5506d8987e21c113598c1f7fc3fdd57d41672e3700d0182109fca350289", func := "example.com/armslength/armslength/zzlaws_root_b1.FnIsNameMatchesWordAutomaton", spec := "fnIsNameMatchesWordAutomaton", apart := false }
def FnIsNameMatchesWordAutomatonSaid : Prop := fnIsNameMatchesWordAutomatonRow.holds Try.pinned (OpenSpec.ofChange fnIsNameMatchesWordAutomatonSpec)

/-- ITS FALSE NEIGHBOUR: 'it returns false'. Refute it at one input. -/
def fnIsNameMatchesWordAutomatonWrong : ChangeSpec := { name := "fnIsNameMatchesWordAutomaton", fn := fun _ => fun
  | [d] => { results := [.lit (.bool false)], args := [d] }
  | _ => none }
def FnIsNameMatchesWordAutomatonWrongFalsely : Prop := fnIsNameMatchesWordAutomatonRow.holds Try.pinned (OpenSpec.ofChange fnIsNameMatchesWordAutomatonWrong)

/-- 'zzlaws_root_b1.FnIsNameHyphenJoin': WHATEVER THE INPUT: true; the input reads as it did. -/
def fnIsNameHyphenJoinSpec : ChangeSpec := { name := "fnIsNameHyphenJoin", fn := fun _ => fun
  | [d1, d2] => { results := [.lit (.bool true)], args := [d1, d2] }
  | _ => none }
def fnIsNameHyphenJoinRow : OpenClaim := { program := "qxb6603360a", sum := "5cd2b5506d8987e21c113598c1f7fc3fdd57d41672e3700d0182109fca350289", func := "example.com/armslength/armslength/zzlaws_root_b1.FnIsNameHyphenJoin", spec := "fnIsNameHyphenJoin", apart := false }
def FnIsNameHyphenJoinSaid : Prop := fnIsNameHyphenJoinRow.holds Try.pinned (OpenSpec.ofChange fnIsNameHyphenJoinSpec)

/-- ITS FALSE NEIGHBOUR: 'it returns false'. Refute it at one input. -/
def fnIsNameHyphenJoinWrong : ChangeSpec := { name := "fnIsNameHyphenJoin", fn := fun _ => fun
  | [d1, d2] => { results := [.lit (.bool false)], args := [d1, d2] }
  | _ => none }
def FnIsNameHyphenJoinWrongFalsely : Prop := fnIsNameHyphenJoinRow.holds Try.pinned (OpenSpec.ofChange fnIsNameHyphenJoinWrong)

end Rows
end Go.Proofs.Qxb6603360a
