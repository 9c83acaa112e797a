/-
  THE LISTED TABLE of the seat b6613337aD: from the rows' condition to what the walks ask ('Tab'); the door's own heap meets the condition.
-/
import Derived.Test.Qxb6613337aDoorRows
import Derived.Test.Qxb6613337aDoorRoad
import Derived.ProofKit
import Derived.OpenShut
import Derived.ChangeVars
import Derived.LaidMore
import Derived.Lib.LaidTab
import Derived.Stop.Joined
namespace Go.Proofs.Qxb6613337aDoor
open Go.ChangeShapes Go.WideShapes Go.ChangeAt Go.RowKit Plain

theorem own : ownKnob Tryd.prog.godebug = none := by kernel_rfl

/-- The table's name and its list, as the rows bear them. -/
def laid1 : List (String × DataW Unit) := Rows.fnFirstOfMonthIsCivilDayAndStepsRow.laid
def vname : String := (laid1.map (·.1)).headD ""
def days : List Int := [0, 31, 59, 90, 120, 151, 181, 212, 243, 273, 304, 334, 365]
def cells13 : Array Value := (days.map fun z => Value.int .i64 z).toArray
def tableH {H : Type} : DataW H := Lib.tabData .i64 days

theorem gTab : Tryd.prog.globalNamed vname = some 0 := by kernel_rfl
theorem tTab : (Tryd.prog.globals[0]?).map (·.type) = some 27 := by kernel_rfl
theorem cells3 : Tryd.prog.cellsOf 3 = 1 := by kernel_rfl
theorem cells27 : Tryd.prog.cellsOf 27 = 13 := by kernel_rfl

/-- The door's own heap meets the condition: three closed facts. -/
theorem door_met (os : Os) (args : Array Value) : laidMetH Tryd.prog laid1 ((World.doorLaid Tryd.prog 400 os).forCall (fun _ _ => 0) ⟨#[], args, []⟩).memory :=
  laidMetH_of_parts3 (fuel := 8) (laidMet_of_run' 8 (by kernel_rfl) (by kernel_rfl)) (by kernel_rfl) (by kernel_rfl)

/-- What the condition gives: the variable's cells. -/
theorem var_of_laid {W : World} (h : laidMetH Tryd.prog laid1 W) : W.var? Tryd.prog vname = some cells13 := by
  rw [MakeChecks.laidMetH_plain _ _ _ (by kernel_rfl)] at h
  exact Lib.tabIs_of_head (name := vname) (k := .i64) (zs := days) (rest := []) gTab tTab Tryd.underlying27 Tryd.underlying3 cells3 cells27 h

theorem tab_of_var {W : World} (h : W.var? Tryd.prog vname = some cells13) : Tab W := by
  intro i hi
  have := World.var?_cell gTab h i
  rw [this]
  rcases (by omega : i = 0 ∨ i = 1 ∨ i = 2 ∨ i = 3 ∨ i = 4 ∨ i = 5 ∨ i = 6 ∨ i = 7 ∨ i = 8 ∨ i = 9 ∨ i = 10 ∨ i = 11 ∨ i = 12) with rfl | rfl | rfl | rfl | rfl | rfl | rfl | rfl | rfl | rfl | rfl | rfl | rfl <;> rfl

/-- The variable reads as the table, in whatever world and mode. -/
theorem reads_table {H : Type} (enc : TypeId × Value → H) (W : World) (sp : Nat → Bool) : DataW.trod enc Tryd.prog W 0 sp true 3 27 cells13.toList = some (tableH, []) := by kernel_rfl
end Go.Proofs.Qxb6613337aDoor
