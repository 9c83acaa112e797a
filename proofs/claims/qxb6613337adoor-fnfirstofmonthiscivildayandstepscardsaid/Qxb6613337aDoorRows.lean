/-
  NARROWER THAN 'FOR EVERY INPUT', by the rows' own cells (each row's printed sentence says how): FnFirstOfMonthIsCivilDayAndSteps: laid · FnFirstOfMonthWeekdayAndCycle: laid.
  DERIVED. THE GIVEN ROWS OF THIS SEAT. 2 by the template 'for every input the law returns true; each argument reads behind the call as it read before'; 0 by the template 'total and deterministic' (their statements: Qxb6613337aDoorTotals.lean).
  GIVEN WITH THE SEED: the statements are not yours to turn. If you find one false, say at which input.
  Laid BY PROGRAM, IN A SANDBOX (cutbox-rows.mjs): the forced cells as the released guide's own fill.sh prints them over the translation ceb69661dcfb0ea5… (all of the seat's roots in one cut). By AI agents, Wed Nov 11 2026. No macro, syntax, notation, axiom, sorry.
-/
import Derived.Test.Qxb6613337aDoorChecked
import GoSem.Claim
import GoSem.ClaimJoined
import GoSem.ClaimMapViews
import Derived.JoinedTies
import Derived.KernelRfl
namespace Go.Proofs.Qxb6613337aDoor
/- THE CELL 'sum', in the pinned program and in every row, IS THE sha256 OF THE DUMP (.gsa) THAT Qxb6613337aDoorProg.lean LOADS. Nothing in Lean hashes anything: it is a label: what it is worth is what the hold of that sum in a sandbox is worth. -/
noncomputable def Tryd.pinned : Pinned := { name := "qxb6613337adoor", sum := "ceb69661dcfb0ea5e285867598eefd608bf00f2320a32ce49b89c5c5b96b3a8e", checked := Tryd.checked }
namespace Rows
def none {H : Type} : Left H := { results := [], args := [] }

/- WHAT THE LISTED PACKAGE-LEVEL VARIABLES READ AS WHEN THE CALL BEGINS. Each datum BY PROGRAM (the guide's laid-datum.mjs) off the statement by which the dump's own 'gosem.cut.vars' lays the variable. In a bare row this is a premise. The card (Qxb6613337aDoorCards.lean) ties it to the program's text. -/
def laid_example_com_sevenfield_sevenfield_daysBeforeMonth {H : Type} : DataW H := .agg [.lit (.int .i64 0), .lit (.int .i64 31), .lit (.int .i64 59), .lit (.int .i64 90), .lit (.int .i64 120), .lit (.int .i64 151), .lit (.int .i64 181), .lit (.int .i64 212), .lit (.int .i64 243), .lit (.int .i64 273), .lit (.int .i64 304), .lit (.int .i64 334), .lit (.int .i64 365)]

/-- 'zzlaws_root_b1.FnFirstOfMonthIsCivilDayAndSteps': WHATEVER THE INPUT: true; the input reads as it did. -/
def fnFirstOfMonthIsCivilDayAndStepsSpec : ChangeSpec := { name := "fnFirstOfMonthIsCivilDayAndSteps", vars := ["example.com/sevenfield/sevenfield.daysBeforeMonth"], fn := fun _ => fun
  | [d1, d2, g1] => { results := [.lit (.bool true)], args := [d1, d2], vars := [g1] }
  | _ => none }
def fnFirstOfMonthIsCivilDayAndStepsRow : OpenClaim := { program := "qxb6613337adoor", sum := "ceb69661dcfb0ea5e285867598eefd608bf00f2320a32ce49b89c5c5b96b3a8e", func := "example.com/sevenfield/sevenfield/zzlaws_root_b1.FnFirstOfMonthIsCivilDayAndSteps", spec := "fnFirstOfMonthIsCivilDayAndSteps", named := ["example.com/sevenfield/sevenfield.daysBeforeMonth"], apart := false, laid := [("example.com/sevenfield/sevenfield.daysBeforeMonth", laid_example_com_sevenfield_sevenfield_daysBeforeMonth)] }
def FnFirstOfMonthIsCivilDayAndStepsSaid : Prop := fnFirstOfMonthIsCivilDayAndStepsRow.holds Tryd.pinned (OpenSpec.ofChange fnFirstOfMonthIsCivilDayAndStepsSpec)

/-- ITS FALSE NEIGHBOUR: 'it returns false'. Refute it at one input. -/
def fnFirstOfMonthIsCivilDayAndStepsWrong : ChangeSpec := { name := "fnFirstOfMonthIsCivilDayAndSteps", vars := ["example.com/sevenfield/sevenfield.daysBeforeMonth"], fn := fun _ => fun
  | [d1, d2, g1] => { results := [.lit (.bool false)], args := [d1, d2], vars := [g1] }
  | _ => none }
def FnFirstOfMonthIsCivilDayAndStepsWrongFalsely : Prop := fnFirstOfMonthIsCivilDayAndStepsRow.holds Tryd.pinned (OpenSpec.ofChange fnFirstOfMonthIsCivilDayAndStepsWrong)

/-- 'zzlaws_root_b1.FnFirstOfMonthWeekdayAndCycle': WHATEVER THE INPUT: true; the input reads as it did. -/
def fnFirstOfMonthWeekdayAndCycleSpec : ChangeSpec := { name := "fnFirstOfMonthWeekdayAndCycle", vars := ["example.com/sevenfield/sevenfield.daysBeforeMonth"], fn := fun _ => fun
  | [d1, d2, g1] => { results := [.lit (.bool true)], args := [d1, d2], vars := [g1] }
  | _ => none }
def fnFirstOfMonthWeekdayAndCycleRow : OpenClaim := { program := "qxb6613337adoor", sum := "ceb69661dcfb0ea5e285867598eefd608bf00f2320a32ce49b89c5c5b96b3a8e", func := "example.com/sevenfield/sevenfield/zzlaws_root_b1.FnFirstOfMonthWeekdayAndCycle", spec := "fnFirstOfMonthWeekdayAndCycle", named := ["example.com/sevenfield/sevenfield.daysBeforeMonth"], apart := false, laid := [("example.com/sevenfield/sevenfield.daysBeforeMonth", laid_example_com_sevenfield_sevenfield_daysBeforeMonth)] }
def FnFirstOfMonthWeekdayAndCycleSaid : Prop := fnFirstOfMonthWeekdayAndCycleRow.holds Tryd.pinned (OpenSpec.ofChange fnFirstOfMonthWeekdayAndCycleSpec)

/-- ITS FALSE NEIGHBOUR: 'it returns false'. Refute it at one input. -/
def fnFirstOfMonthWeekdayAndCycleWrong : ChangeSpec := { name := "fnFirstOfMonthWeekdayAndCycle", vars := ["example.com/sevenfield/sevenfield.daysBeforeMonth"], fn := fun _ => fun
  | [d1, d2, g1] => { results := [.lit (.bool false)], args := [d1, d2], vars := [g1] }
  | _ => none }
def FnFirstOfMonthWeekdayAndCycleWrongFalsely : Prop := fnFirstOfMonthWeekdayAndCycleRow.holds Tryd.pinned (OpenSpec.ofChange fnFirstOfMonthWeekdayAndCycleWrong)

end Rows
end Go.Proofs.Qxb6613337aDoor
