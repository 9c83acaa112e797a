/-
  THE PLAIN MATHEMATICS of the seat b6613337a: leap years and day numbers over Int. Nothing of the dump is imported.
-/
namespace Go.Proofs.Qxb6613337a.Plain

/-- How many leap years there are among 1..y. -/
def lyt (y : Int) : Int := y / 4 - y / 100 + y / 400
/-- The Gregorian rule. -/
def leapB (y : Int) : Bool := decide (y % 4 = 0 ∧ (y % 100 ≠ 0 ∨ y % 400 = 0))
/-- The day number of 1 January of year y. -/
def foy (y : Int) : Int := (y - 1970) * 365 + lyt (y - 1) - 477
/-- 1 January of year y by days_from_civil. -/
def civ1 (y : Int) : Int := (y - 1) / 400 * 146097 + ((y - 1 - (y - 1) / 400 * 400) * 365 + (y - 1 - (y - 1) / 400 * 400) / 4 - (y - 1 - (y - 1) / 400 * 400) / 100 + 306) - 719468

theorem leapB_true {y : Int} (h : leapB y = true) : y % 4 = 0 ∧ (y % 100 ≠ 0 ∨ y % 400 = 0) := of_decide_eq_true h
theorem leapB_mk {y : Int} (h : y % 4 = 0 ∧ (y % 100 ≠ 0 ∨ y % 400 = 0)) : leapB y = true := decide_eq_true h
theorem leapB_not {y : Int} (h : ¬ (y % 4 = 0 ∧ (y % 100 ≠ 0 ∨ y % 400 = 0))) : leapB y = false := decide_eq_false h
theorem leapB_false {y : Int} (h : leapB y = false) : ¬ (y % 4 = 0 ∧ (y % 100 ≠ 0 ∨ y % 400 = 0)) := of_decide_eq_false h

theorem lyt_bd (y : Int) (h0 : 0 ≤ y) : 0 ≤ lyt y ∧ lyt y ≤ y := by unfold lyt; omega
theorem lyt_cycle (y : Int) : lyt (y + 400) - lyt y = 97 := by unfold lyt; omega
theorem lyt_century (y : Int) : lyt (y + 100) - lyt y = 24 + (y + 100) / 400 - y / 400 := by unfold lyt; omega
theorem lyt_leap (y : Int) (h : leapB y = true) : lyt y - lyt (y - 1) = 1 := by
  have := leapB_true h
  unfold lyt
  omega
theorem lyt_common (y : Int) (h : leapB y = false) : lyt y - lyt (y - 1) = 0 := by
  have := leapB_false h
  unfold lyt
  omega
theorem lyt_mod (y : Int) : lyt y = 97 * (y / 400) + lyt (y % 400) := by unfold lyt; omega
theorem lyt_1969 : lyt 1969 = 477 := by decide
theorem foy_cycle (y : Int) : foy (y + 400) - foy y = 146097 := by unfold foy lyt; omega
theorem foy_gauss (y : Int) : (foy y + 4) % 7 = (1 + 5 * ((y - 1) % 4) + 4 * ((y - 1) % 100) + 6 * ((y - 1) % 400)) % 7 := by unfold foy lyt; omega
theorem foy_leap (y : Int) (h : leapB y = true) : foy (y + 1) - foy y = 366 := by
  have := leapB_true h
  unfold foy lyt
  omega
theorem foy_common (y : Int) (h : leapB y = false) : foy (y + 1) - foy y = 365 := by
  have := leapB_false h
  unfold foy lyt
  omega
theorem foy_civ (y : Int) : foy y = civ1 y := by unfold foy lyt civ1; omega
theorem foy_bd (y : Int) (h0 : 1970 ≤ y) : 0 ≤ foy y ∧ foy y ≤ 366 * y := by unfold foy lyt; omega
theorem civ1_bd (y : Int) (h0 : 1970 ≤ y) : 0 ≤ civ1 y ∧ civ1 y ≤ 366 * y := by rw [← foy_civ]; exact foy_bd y h0
end Go.Proofs.Qxb6613337a.Plain
