/-
  DERIVED. GIVEN WITH THE SEED: THE CARDS: each row of Qxb6613337aDoorRows.lean that lists a variable, with what it lists TIED to the program's text (the seventh form; the later family's looks); each row that meets fmt, with fmt's text TOLD by the authors' own Lean function (tested against real Go, not proved from fmt's source: count such statements apart). THE CARD IS WHAT COUNTS. Prove the row's statement (the work); the ties are given (Qxb6613337aDoorTie.lean); close each card by the builder's one call (the guide's Derived/Test/ToyasCard.lean, 'card_holds'). Laid BY PROGRAM, IN A SANDBOX (cutbox-door.mjs). By AI agents, Wed Nov 11 2026. No macro, syntax, notation, axiom, sorry.
-/
import Derived.Test.Qxb6613337aDoorRows
import GoSem.ClaimSeven
namespace Go.Proofs.Qxb6613337aDoor
namespace Rows

/-- THE TIED CARD OF 'zzlaws_root_b1.FnFirstOfMonthIsCivilDayAndSteps'. -/
def fnFirstOfMonthIsCivilDayAndStepsCard : Claim7 := { stood := { row := fnFirstOfMonthIsCivilDayAndStepsRow, standIns := [], harness := (true, "d8df0b734dac14e3f38a258dba9281ac5c42a387181b5089ccbed46ec0657f7c"), looks := false }, kinds := [], alts := [], laidByText := true, laidKinds := [.data], laidTests := true, laidLooks := .later }
def FnFirstOfMonthIsCivilDayAndStepsCardSaid : Prop := Claim7.holds Tryd.pinned (.plain (OpenSpec.ofChange fnFirstOfMonthIsCivilDayAndStepsSpec)) fnFirstOfMonthIsCivilDayAndStepsCard

/-- THE TIED CARD OF 'zzlaws_root_b1.FnFirstOfMonthWeekdayAndCycle'. -/
def fnFirstOfMonthWeekdayAndCycleCard : Claim7 := { stood := { row := fnFirstOfMonthWeekdayAndCycleRow, standIns := [], harness := (true, "d8df0b734dac14e3f38a258dba9281ac5c42a387181b5089ccbed46ec0657f7c"), looks := false }, kinds := [], alts := [], laidByText := true, laidKinds := [.data], laidTests := true, laidLooks := .later }
def FnFirstOfMonthWeekdayAndCycleCardSaid : Prop := Claim7.holds Tryd.pinned (.plain (OpenSpec.ofChange fnFirstOfMonthWeekdayAndCycleSpec)) fnFirstOfMonthWeekdayAndCycleCard
end Rows
end Go.Proofs.Qxb6613337aDoor
