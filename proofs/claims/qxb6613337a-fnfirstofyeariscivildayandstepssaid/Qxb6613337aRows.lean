/-
  No cell of these rows narrows 'for every input' (looked for: loops, veiled, ifaces, maps, wideKeys, modest, calm, conditions, laid).
  DERIVED. THE GIVEN ROWS OF THIS SEAT. 4 by the template 'for every input the law returns true; each argument reads behind the call as it read before'; 0 by the template 'total and deterministic' (their statements: Qxb6613337aTotals.lean).
  GIVEN WITH THE SEED: the statements are not yours to turn. If you find one false, say at which input.
  Laid BY PROGRAM, IN A SANDBOX (cutbox-rows.mjs): the forced cells as the released guide's own fill.sh prints them over the translation 393879a6dd0a8867… (all of the seat's roots in one cut). By AI agents, Wed Nov 11 2026. No macro, syntax, notation, axiom, sorry.
-/
import Derived.Test.Qxb6613337aChecked
import GoSem.Claim
import GoSem.ClaimJoined
import GoSem.ClaimMapViews
import Derived.JoinedTies
import Derived.KernelRfl
namespace Go.Proofs.Qxb6613337a
/- THE CELL 'sum', in the pinned program and in every row, IS THE sha256 OF THE DUMP (.gsa) THAT Qxb6613337aProg.lean LOADS. Nothing in Lean hashes anything: it is a label: what it is worth is what the hold of that sum in a sandbox is worth. -/
noncomputable def Try.pinned : Pinned := { name := "qxb6613337a", sum := "393879a6dd0a88675a898fbece165a895af62a48a3a15c5abb13d144ee104cf7", checked := Try.checked }
namespace Rows
def none {H : Type} : Left H := { results := [], args := [] }

/-- 'zzlaws_root_b1.FnLeapYearsThroughCountsLeapYears': WHATEVER THE INPUT: true; the input reads as it did. -/
def fnLeapYearsThroughCountsLeapYearsSpec : ChangeSpec := { name := "fnLeapYearsThroughCountsLeapYears", fn := fun _ => fun
  | [d] => { results := [.lit (.bool true)], args := [d] }
  | _ => none }
def fnLeapYearsThroughCountsLeapYearsRow : OpenClaim := { program := "qxb6613337a", sum := "393879a6dd0a88675a898fbece165a895af62a48a3a15c5abb13d144ee104cf7", func := "example.com/sevenfield/sevenfield/zzlaws_root_b1.FnLeapYearsThroughCountsLeapYears", spec := "fnLeapYearsThroughCountsLeapYears", apart := false }
def FnLeapYearsThroughCountsLeapYearsSaid : Prop := fnLeapYearsThroughCountsLeapYearsRow.holds Try.pinned (OpenSpec.ofChange fnLeapYearsThroughCountsLeapYearsSpec)

/-- ITS FALSE NEIGHBOUR: 'it returns false'. Refute it at one input. -/
def fnLeapYearsThroughCountsLeapYearsWrong : ChangeSpec := { name := "fnLeapYearsThroughCountsLeapYears", fn := fun _ => fun
  | [d] => { results := [.lit (.bool false)], args := [d] }
  | _ => none }
def FnLeapYearsThroughCountsLeapYearsWrongFalsely : Prop := fnLeapYearsThroughCountsLeapYearsRow.holds Try.pinned (OpenSpec.ofChange fnLeapYearsThroughCountsLeapYearsWrong)

/-- 'zzlaws_root_b1.FnLeapYearsThroughCenturyAndCycle': WHATEVER THE INPUT: true; the input reads as it did. -/
def fnLeapYearsThroughCenturyAndCycleSpec : ChangeSpec := { name := "fnLeapYearsThroughCenturyAndCycle", fn := fun _ => fun
  | [d] => { results := [.lit (.bool true)], args := [d] }
  | _ => none }
def fnLeapYearsThroughCenturyAndCycleRow : OpenClaim := { program := "qxb6613337a", sum := "393879a6dd0a88675a898fbece165a895af62a48a3a15c5abb13d144ee104cf7", func := "example.com/sevenfield/sevenfield/zzlaws_root_b1.FnLeapYearsThroughCenturyAndCycle", spec := "fnLeapYearsThroughCenturyAndCycle", apart := false }
def FnLeapYearsThroughCenturyAndCycleSaid : Prop := fnLeapYearsThroughCenturyAndCycleRow.holds Try.pinned (OpenSpec.ofChange fnLeapYearsThroughCenturyAndCycleSpec)

/-- ITS FALSE NEIGHBOUR: 'it returns false'. Refute it at one input. -/
def fnLeapYearsThroughCenturyAndCycleWrong : ChangeSpec := { name := "fnLeapYearsThroughCenturyAndCycle", fn := fun _ => fun
  | [d] => { results := [.lit (.bool false)], args := [d] }
  | _ => none }
def FnLeapYearsThroughCenturyAndCycleWrongFalsely : Prop := fnLeapYearsThroughCenturyAndCycleRow.holds Try.pinned (OpenSpec.ofChange fnLeapYearsThroughCenturyAndCycleWrong)

/-- 'zzlaws_root_b1.FnFirstOfYearIsCivilDayAndSteps': WHATEVER THE INPUT: true; the input reads as it did. -/
def fnFirstOfYearIsCivilDayAndStepsSpec : ChangeSpec := { name := "fnFirstOfYearIsCivilDayAndSteps", fn := fun _ => fun
  | [d] => { results := [.lit (.bool true)], args := [d] }
  | _ => none }
def fnFirstOfYearIsCivilDayAndStepsRow : OpenClaim := { program := "qxb6613337a", sum := "393879a6dd0a88675a898fbece165a895af62a48a3a15c5abb13d144ee104cf7", func := "example.com/sevenfield/sevenfield/zzlaws_root_b1.FnFirstOfYearIsCivilDayAndSteps", spec := "fnFirstOfYearIsCivilDayAndSteps", apart := false }
def FnFirstOfYearIsCivilDayAndStepsSaid : Prop := fnFirstOfYearIsCivilDayAndStepsRow.holds Try.pinned (OpenSpec.ofChange fnFirstOfYearIsCivilDayAndStepsSpec)

/-- ITS FALSE NEIGHBOUR: 'it returns false'. Refute it at one input. -/
def fnFirstOfYearIsCivilDayAndStepsWrong : ChangeSpec := { name := "fnFirstOfYearIsCivilDayAndSteps", fn := fun _ => fun
  | [d] => { results := [.lit (.bool false)], args := [d] }
  | _ => none }
def FnFirstOfYearIsCivilDayAndStepsWrongFalsely : Prop := fnFirstOfYearIsCivilDayAndStepsRow.holds Try.pinned (OpenSpec.ofChange fnFirstOfYearIsCivilDayAndStepsWrong)

/-- 'zzlaws_root_b1.FnFirstOfYearWeekdayAndCycle': WHATEVER THE INPUT: true; the input reads as it did. -/
def fnFirstOfYearWeekdayAndCycleSpec : ChangeSpec := { name := "fnFirstOfYearWeekdayAndCycle", fn := fun _ => fun
  | [d] => { results := [.lit (.bool true)], args := [d] }
  | _ => none }
def fnFirstOfYearWeekdayAndCycleRow : OpenClaim := { program := "qxb6613337a", sum := "393879a6dd0a88675a898fbece165a895af62a48a3a15c5abb13d144ee104cf7", func := "example.com/sevenfield/sevenfield/zzlaws_root_b1.FnFirstOfYearWeekdayAndCycle", spec := "fnFirstOfYearWeekdayAndCycle", apart := false }
def FnFirstOfYearWeekdayAndCycleSaid : Prop := fnFirstOfYearWeekdayAndCycleRow.holds Try.pinned (OpenSpec.ofChange fnFirstOfYearWeekdayAndCycleSpec)

/-- ITS FALSE NEIGHBOUR: 'it returns false'. Refute it at one input. -/
def fnFirstOfYearWeekdayAndCycleWrong : ChangeSpec := { name := "fnFirstOfYearWeekdayAndCycle", fn := fun _ => fun
  | [d] => { results := [.lit (.bool false)], args := [d] }
  | _ => none }
def FnFirstOfYearWeekdayAndCycleWrongFalsely : Prop := fnFirstOfYearWeekdayAndCycleRow.holds Try.pinned (OpenSpec.ofChange fnFirstOfYearWeekdayAndCycleWrong)

end Rows
end Go.Proofs.Qxb6613337a
