/-
  THE PLAIN MATHEMATICS of the seat b6613337aD: leap years, day numbers of the firsts of months, days_from_civil, Zeller's congruence, over Int. Nothing of the dump is imported.
-/
namespace Go.Proofs.Qxb6613337aDoor.Plain

/-- How many leap years there are among 1..y. -/
def lyt (y : Int) : Int := y / 4 - y / 100 + y / 400
/-- The Gregorian rule. -/
def leapB (y : Int) : Bool := decide (y % 4 = 0 ∧ (y % 100 ≠ 0 ∨ y % 400 = 0))
/-- The day number of 1 January of year y. -/
def foy (y : Int) : Int := (y - 1970) * 365 + lyt (y - 1) - 477
/-- The days of a common year before month m (1..13). -/
def dbm (m : Int) : Int := if m ≤ 2 then (m - 1) * 31 else (367 * m - 362) / 12 - 2
/-- The leap day, where it lies before month m. -/
def ld (y m : Int) : Int := if 2 < m ∧ leapB y = true then 1 else 0
/-- The days of year y before month m. -/
def mst (y m : Int) : Int := dbm m + ld y m
/-- The day number of the first of month m of year y. -/
def fom (y m : Int) : Int := foy y + mst y m
/-- days_from_civil at the first of the month mp months behind March of the March year y. -/
def civM (y mp : Int) : Int := y / 400 * 146097 + ((y - y / 400 * 400) * 365 + (y - y / 400 * 400) / 4 - (y - y / 400 * 400) / 100 + (153 * mp + 2) / 5) - 719468
/-- days_from_civil at the first of month m of year y. -/
def civ (y m : Int) : Int := if m ≤ 2 then civM (y - 1) (m + 9) else civM y (m - 3)
/-- The number of days of month m of year y. -/
def mlen (y m : Int) : Int := if m = 2 then (if leapB y = true then 29 else 28) else if m = 4 ∨ m = 6 ∨ m = 9 ∨ m = 11 then 30 else 31
/-- Zeller's number at month zm (3..14) of the March year zy. -/
def zel (zy zm : Int) : Int := (1 + 13 * (zm + 1) / 5 + zy % 100 + zy % 100 / 4 + zy / 100 / 4 + 5 * (zy / 100)) % 7

theorem leapB_true {y : Int} (h : leapB y = true) : y % 4 = 0 ∧ (y % 100 ≠ 0 ∨ y % 400 = 0) := of_decide_eq_true h
theorem leapB_mk {y : Int} (h : y % 4 = 0 ∧ (y % 100 ≠ 0 ∨ y % 400 = 0)) : leapB y = true := decide_eq_true h
theorem leapB_not {y : Int} (h : ¬ (y % 4 = 0 ∧ (y % 100 ≠ 0 ∨ y % 400 = 0))) : leapB y = false := decide_eq_false h
theorem leapB_false {y : Int} (h : leapB y = false) : ¬ (y % 4 = 0 ∧ (y % 100 ≠ 0 ∨ y % 400 = 0)) := of_decide_eq_false h
theorem leapB_cycle (y : Int) : leapB (y + 400) = leapB y := by
  unfold leapB
  rw [decide_eq_decide]
  omega

theorem lyt_bd (y : Int) (h0 : 0 ≤ y) : 0 ≤ lyt y ∧ lyt y ≤ y := by unfold lyt; omega
theorem lyt_1969 : lyt 1969 = 477 := by decide
theorem foy_cycle (y : Int) : foy (y + 400) - foy y = 146097 := by unfold foy lyt; omega
theorem foy_bd (y : Int) (h0 : 1970 ≤ y) : 0 ≤ foy y ∧ foy y ≤ 366 * y := by unfold foy lyt; omega

theorem months {m : Int} (h1 : 1 ≤ m) (h2 : m ≤ 13) : m = 1 ∨ m = 2 ∨ m = 3 ∨ m = 4 ∨ m = 5 ∨ m = 6 ∨ m = 7 ∨ m = 8 ∨ m = 9 ∨ m = 10 ∨ m = 11 ∨ m = 12 ∨ m = 13 := by omega

theorem dbm_bd {m : Int} (h1 : 1 ≤ m) (h2 : m ≤ 13) : 0 ≤ dbm m ∧ dbm m ≤ 365 := by
  unfold dbm
  split <;> omega
theorem ld_bd (y m : Int) : 0 ≤ ld y m ∧ ld y m ≤ 1 := by
  unfold ld
  split <;> omega
theorem mst_bd (y : Int) {m : Int} (h1 : 1 ≤ m) (h2 : m ≤ 13) : 0 ≤ mst y m ∧ mst y m ≤ 366 := by
  have := dbm_bd h1 h2
  have := ld_bd y m
  unfold mst
  omega
theorem fom_bd (y : Int) {m : Int} (h0 : 1970 ≤ y) (h1 : 1 ≤ m) (h2 : m ≤ 13) : 0 ≤ fom y m ∧ fom y m ≤ 366 * y + 366 := by
  have := foy_bd y h0
  have := mst_bd y h1 h2
  unfold fom
  omega
theorem fom_cycle (y m : Int) : fom (y + 400) m - fom y m = 146097 := by
  have := foy_cycle y
  unfold fom mst ld
  rw [leapB_cycle]
  omega

theorem mst_early (y : Int) {m : Int} (h : m ≤ 2) : mst y m = dbm m := by
  unfold mst ld
  rw [if_neg (by omega)]
  omega
theorem mst_common (y m : Int) (hl : leapB y = false) : mst y m = dbm m := by
  unfold mst ld
  rw [hl, if_neg (by simp)]
  omega
theorem mst_leap (y : Int) {m : Int} (h : 2 < m) (hl : leapB y = true) : mst y m = dbm m + 1 := by
  unfold mst ld
  rw [if_pos ⟨h, hl⟩]

/-- January and February by the March year before. -/
theorem fom_civ_early (y : Int) {m : Int} (h1 : 1 ≤ m) (h2 : m ≤ 2) : fom y m = civM (y - 1) (m + 9) := by
  unfold fom
  rw [mst_early y h2]
  unfold dbm civM foy lyt
  rw [if_pos h2]
  rcases (by omega : m = 1 ∨ m = 2) with rfl | rfl <;> omega
theorem dbm_late {m : Int} (h1 : 3 ≤ m) (h2 : m ≤ 13) : dbm m = 59 + (153 * (m - 3) + 2) / 5 := by
  rcases months (by omega) h2 with rfl | rfl | rfl | rfl | rfl | rfl | rfl | rfl | rfl | rfl | rfl | rfl | rfl <;> first | omega | decide
/-- March to the January behind by the March year. -/
theorem fom_civ_late (y : Int) {m : Int} (h1 : 3 ≤ m) (h2 : m ≤ 13) : fom y m = civM y (m - 3) := by
  unfold fom
  cases hl : leapB y
  · have := leapB_false hl
    rw [mst_common y m hl, dbm_late h1 h2]
    unfold civM foy lyt
    omega
  · have := leapB_true hl
    rw [mst_leap y (by omega) hl, dbm_late h1 h2]
    unfold civM foy lyt
    omega
theorem civ_fom (y : Int) {m : Int} (h1 : 1 ≤ m) (h2 : m ≤ 12) : civ y m = fom y m := by
  unfold civ
  by_cases h : m ≤ 2
  · rw [if_pos h, fom_civ_early y h1 h]
  · rw [if_neg h, fom_civ_late y (by omega) (by omega)]
theorem civ_fom13 (y : Int) : civ (y + 1) 1 = fom y 13 := by
  rw [fom_civ_late y (by omega) (by omega)]
  unfold civ
  rw [if_pos (by decide)]
  unfold civM
  omega

theorem mst_step (y : Int) {m : Int} (h1 : 1 ≤ m) (h2 : m ≤ 12) : mst y (m + 1) - mst y m = mlen y m := by
  cases hl : leapB y
  · rw [mst_common y (m + 1) hl, mst_common y m hl]
    unfold mlen
    rw [hl]
    clear hl y
    rcases months h1 (by omega) with rfl | rfl | rfl | rfl | rfl | rfl | rfl | rfl | rfl | rfl | rfl | rfl | rfl <;> first | omega | decide
  · by_cases h : m ≤ 2
    · rcases (by omega : m = 1 ∨ m = 2) with rfl | rfl
      · rw [mst_early y (m := 1 + 1) (by omega), mst_early y (m := 1) (by omega)]
        unfold mlen
        rw [hl]
        decide
      · rw [mst_early y (m := 2) (by omega), mst_leap y (m := 2 + 1) (by omega) hl]
        unfold mlen
        rw [hl]
        decide
    · rw [mst_leap y (m := m + 1) (by omega) hl, mst_leap y (m := m) (by omega) hl]
      unfold mlen
      rw [hl]
      clear hl y
      rcases months h1 (by omega) with rfl | rfl | rfl | rfl | rfl | rfl | rfl | rfl | rfl | rfl | rfl | rfl | rfl <;> first | omega | decide
theorem fom_step (y : Int) {m : Int} (h1 : 1 ≤ m) (h2 : m ≤ 12) : fom y (m + 1) - fom y m = mlen y m := by
  have := mst_step y h1 h2
  unfold fom
  omega
theorem fom_dec (y : Int) : fom y 13 - fom y 12 = 31 := fom_step y (m := 12) (by decide) (by decide)
theorem mlen_bd (y m : Int) : 28 ≤ mlen y m ∧ mlen y m ≤ 31 := by
  unfold mlen
  split
  · split <;> omega
  · split <;> omega

theorem civM_zel (y mp : Int) : (civM y mp + 5) % 7 = (4 + (153 * mp + 2) / 5 + y % 100 + y % 100 / 4 + y / 100 / 4 + 5 * (y / 100)) % 7 := by
  unfold civM
  have e1 : y / 100 / 4 = y / 400 := by omega
  have e2 : y % 100 / 4 = y / 4 - 25 * (y / 100) := by omega
  have e3 : (y - y / 400 * 400) / 4 = y / 4 - 100 * (y / 400) := by omega
  have e4 : (y - y / 400 * 400) / 100 = y / 100 - 4 * (y / 400) := by omega
  have e5 : y % 100 = y - 100 * (y / 100) := by omega
  rw [e1, e2, e3, e4, e5]
  generalize (153 * mp + 2) / 5 = D
  generalize y / 100 = c
  generalize y / 400 = g
  generalize y / 4 = q
  omega
theorem zel_late (y : Int) {m : Int} (h1 : 3 ≤ m) (h2 : m ≤ 13) : (fom y m + 5) % 7 = zel y m := by
  rw [fom_civ_late y h1 h2, civM_zel]
  unfold zel
  rcases months (by omega) h2 with rfl | rfl | rfl | rfl | rfl | rfl | rfl | rfl | rfl | rfl | rfl | rfl | rfl <;> omega
theorem zel_early (y : Int) {m : Int} (h1 : 1 ≤ m) (h2 : m ≤ 2) : (fom y m + 5) % 7 = zel (y - 1) (m + 12) := by
  rw [fom_civ_early y h1 h2, civM_zel]
  unfold zel
  rcases (by omega : m = 1 ∨ m = 2) with rfl | rfl <;> omega
end Go.Proofs.Qxb6613337aDoor.Plain
