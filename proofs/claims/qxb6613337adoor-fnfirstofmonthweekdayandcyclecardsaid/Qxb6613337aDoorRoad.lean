/-
  THE WALKS of the seat b6613337aD: one contract a function, the callees first. 'Tab w': the variable daysBeforeMonth (block 0) holds the days before each month of a common year.
-/
import Derived.Test.Qxb6613337aDoorRows
import Derived.Test.Qxb6613337aDoorPlain
import Derived.WalkKit
import Derived.WalkSpells
namespace Go.Proofs.Qxb6613337aDoor
open Go.RowKit Plain

theorem ret_int {k : IntKind} {a b : Int} (h : a = b) : Ending.returned (.int k a) = .returned (.int k b) := by rw [h]
theorem ret_bool {a b : Bool} (h : a = b) : Ending.returned (.bool a) = .returned (.bool b) := by rw [h]

/-- The table: cell i holds the days before month i + 1. -/
def Tab (w : World) : Prop := ∀ i : Nat, i < 13 → w.cell? ⟨0, i, none⟩ = some (.int .i64 (dbm (i + 1)))

/-- leapYearsThrough. -/
theorem lyt_any (y : Int) (h0 : 0 ≤ y) (h1 : y ≤ 9223372036854775807) (w : World) :
    Calls Tryd.prog 12 #[.int .i64 y] w fun e w' => e = .returned (.int .i64 (lyt y)) ∧ w' = w := by
  go_enter Tryd.func12, Tryd.ntmps12
  go_wp2
  go_ret
  exact ⟨rfl, rfl⟩

/-- firstOfYear. -/
theorem foy_any (y : Int) (h0 : 1970 ≤ y) (h1 : y ≤ 20000000000000000) (w : World) :
    Calls Tryd.prog 10 #[.int .i64 y] w fun e w' => e = .returned (.int .i64 (foy y)) ∧ w' = w := by
  have hb := lyt_bd (y - 1) (by omega)
  have h9 := lyt_1969
  go_enter Tryd.func10, Tryd.ntmps10
  go_wp2_with (go_at_call 12; refine (lyt_any _ (by omega) (by omega) _).mono ?_; rintro e w' ⟨rfl, rfl⟩)
  go_ret
  exact ⟨ret_int (by unfold foy; omega), rfl⟩

/-- isLeapYear, the law's own. -/
theorem leapYear_any (y : Int) (h0 : 0 ≤ y) (h1 : y ≤ 9223372036854775807) (w : World) :
    Calls Tryd.prog 9 #[.int .i64 y] w fun e w' => e = .returned (.bool (leapB y)) ∧ w' = w := by
  by_cases c1 : y % 4 = 0
  · by_cases c2 : y % 100 = 0
    · by_cases c3 : y % 400 = 0
      · have hl : leapB y = true := leapB_mk (by omega)
        go_enter Tryd.func9, Tryd.ntmps9
        go_wp2
        go_ret
        exact ⟨ret_bool (by simp [*]), rfl⟩
      · have hl : leapB y = false := leapB_not (by omega)
        go_enter Tryd.func9, Tryd.ntmps9
        go_wp2
        go_ret
        exact ⟨ret_bool (by simp [*]), rfl⟩
    · have hl : leapB y = true := leapB_mk (by omega)
      go_enter Tryd.func9, Tryd.ntmps9
      go_wp2
      go_ret
      exact ⟨ret_bool (by simp [*]), rfl⟩
  · have hl : leapB y = false := leapB_not (by omega)
    go_enter Tryd.func9, Tryd.ntmps9
    go_wp2
    go_ret
    exact ⟨ret_bool (by simp [*]), rfl⟩

/-- isLeap, the project's. -/
theorem leap_any (y : Int) (h0 : 0 ≤ y) (h1 : y ≤ 9223372036854775807) (w : World) :
    Calls Tryd.prog 13 #[.int .i64 y] w fun e w' => e = .returned (.bool (leapB y)) ∧ w' = w := by
  by_cases c1 : y % 4 = 0
  · by_cases c2 : y % 100 = 0
    · by_cases c3 : y % 400 = 0
      · have hl : leapB y = true := leapB_mk (by omega)
        go_enter Tryd.func13, Tryd.ntmps13
        go_wp2
        go_ret
        exact ⟨ret_bool (by simp [*]), rfl⟩
      · have hl : leapB y = false := leapB_not (by omega)
        go_enter Tryd.func13, Tryd.ntmps13
        go_wp2
        go_ret
        exact ⟨ret_bool (by simp [*]), rfl⟩
    · have hl : leapB y = true := leapB_mk (by omega)
      go_enter Tryd.func13, Tryd.ntmps13
      go_wp2
      go_ret
      exact ⟨ret_bool (by simp [*]), rfl⟩
  · have hl : leapB y = false := leapB_not (by omega)
    go_enter Tryd.func13, Tryd.ntmps13
    go_wp2
    go_ret
    exact ⟨ret_bool (by simp [*]), rfl⟩

/-- monthStart at a cell of the table. -/
theorem mst_at (y m d : Int) (h0 : 1970 ≤ y) (h1 : y ≤ 20000000000000000) (hm1 : 1 ≤ m) (hm2 : m ≤ 13) (hd0 : 0 ≤ d) (hd1 : d ≤ 365) (w : World)
    (hc : w.cell? ⟨0, m.toNat - 1, none⟩ = some (.int .i64 d)) :
    Calls Tryd.prog 11 #[.int .i64 y, .int .i64 m] w fun e w' => e = .returned (.int .i64 (d + ld y m)) ∧ w' = w := by
  by_cases c1 : 2 < m
  · cases hl : leapB y
    · have HL : Hid (ld y m = 0) := by unfold ld; rw [hl, if_neg (by simp)]; exact (rfl : (0 : Int) = 0)
      go_enter Tryd.func11, Tryd.ntmps11
      go_wp2_with (go_at_call 13; refine (leap_any _ (by omega) (by omega) _).mono ?_; rintro e w' ⟨rfl, rfl⟩)
      go_ret
      exact ⟨ret_int (by rw [HL.out]; omega), rfl⟩
    · have HL : Hid (ld y m = 1) := by unfold ld; rw [if_pos ⟨c1, hl⟩]; exact (rfl : (1 : Int) = 1)
      go_enter Tryd.func11, Tryd.ntmps11
      go_wp2_with (go_at_call 13; refine (leap_any _ (by omega) (by omega) _).mono ?_; rintro e w' ⟨rfl, rfl⟩)
      go_ret
      exact ⟨ret_int (by rw [HL.out]), rfl⟩
  · have HL : Hid (ld y m = 0) := by unfold ld; rw [if_neg (fun h => c1 h.1)]; exact (rfl : (0 : Int) = 0)
    go_enter Tryd.func11, Tryd.ntmps11
    go_wp2_with (go_at_call 13; refine (leap_any _ (by omega) (by omega) _).mono ?_; rintro e w' ⟨rfl, rfl⟩)
    go_ret
    exact ⟨ret_int (by rw [HL.out]; omega), rfl⟩

/-- monthStart. -/
theorem mst_any (y m : Int) (h0 : 1970 ≤ y) (h1 : y ≤ 20000000000000000) (hm1 : 1 ≤ m) (hm2 : m ≤ 13) (w : World) (hT : Tab w) :
    Calls Tryd.prog 11 #[.int .i64 y, .int .i64 m] w fun e w' => e = .returned (.int .i64 (mst y m)) ∧ w' = w := by
  have hd := dbm_bd hm1 hm2
  have hc := hT (m.toNat - 1) (by omega)
  have e : ((m.toNat - 1 : Nat) : Int) + 1 = m := by omega
  rw [e] at hc
  exact mst_at y m (dbm m) h0 h1 hm1 hm2 hd.1 hd.2 w hc

/-- firstOfMonth. -/
theorem fom_any (y m : Int) (h0 : 1970 ≤ y) (h1 : y ≤ 20000000000000000) (hm1 : 1 ≤ m) (hm2 : m ≤ 13) (w : World) (hT : Tab w) :
    Calls Tryd.prog 8 #[.int .i64 y, .int .i64 m] w fun e w' => e = .returned (.int .i64 (fom y m)) ∧ w' = w := by
  have b1 := foy_bd y h0
  have b2 := mst_bd y hm1 hm2
  go_enter Tryd.func8, Tryd.ntmps8
  go_wp2_with (first
    | (go_at_call 10; refine (foy_any _ (by omega) (by omega) _).mono ?_; rintro e w' ⟨rfl, rfl⟩)
    | (go_at_call 11; refine (mst_any _ _ (by omega) (by omega) (by omega) (by omega) _ hT).mono ?_; rintro e w' ⟨rfl, rfl⟩))
  go_ret
  exact ⟨rfl, rfl⟩

/-- ZZfirstOfMonth. -/
theorem zzfom_any (y m : Int) (h0 : 1970 ≤ y) (h1 : y ≤ 20000000000000000) (hm1 : 1 ≤ m) (hm2 : m ≤ 13) (w : World) (hT : Tab w) :
    Calls Tryd.prog 5 #[.int .i64 y, .int .i64 m] w fun e w' => e = .returned (.int .i64 (fom y m)) ∧ w' = w := by
  go_enter Tryd.func5, Tryd.ntmps5
  go_wp2_with (go_at_call 8; refine (fom_any _ _ (by omega) (by omega) (by omega) (by omega) _ hT).mono ?_; rintro e w' ⟨rfl, rfl⟩)
  go_ret
  exact ⟨rfl, rfl⟩

/-- civilDays at the first of a month. -/
theorem civ_any (y m : Int) (h0 : 1970 ≤ y) (h1 : y ≤ 20000000000000000) (hm1 : 1 ≤ m) (hm2 : m ≤ 12) (w : World) :
    Calls Tryd.prog 6 #[.int .i64 y, .int .i64 m, .int .i64 1] w fun e w' => e = .returned (.int .i64 (civ y m)) ∧ w' = w := by
  by_cases c : m ≤ 2
  · go_enter Tryd.func6, Tryd.ntmps6
    go_wp2
    go_ret
    exact ⟨ret_int (by unfold civ; rw [if_pos c]; unfold civM; omega), rfl⟩
  · go_enter Tryd.func6, Tryd.ntmps6
    go_wp2
    go_ret
    exact ⟨ret_int (by unfold civ; rw [if_neg (by omega)]; unfold civM; omega), rfl⟩

/-- monthLen. -/
theorem mlen_any (y m : Int) (h0 : 1970 ≤ y) (h1 : y ≤ 20000000000000000) (hm1 : 1 ≤ m) (hm2 : m ≤ 12) (w : World) :
    Calls Tryd.prog 7 #[.int .i64 y, .int .i64 m] w fun e w' => e = .returned (.int .i64 (mlen y m)) ∧ w' = w := by
  by_cases c2 : m = 2
  · subst c2
    cases hl : leapB y
    · go_enter Tryd.func7, Tryd.ntmps7
      go_wp2_with (go_at_call 9; refine (leapYear_any _ (by omega) (by omega) _).mono ?_; rintro e w' ⟨rfl, rfl⟩)
      go_ret
      exact ⟨ret_int (by unfold mlen; rw [hl]; decide), rfl⟩
    · go_enter Tryd.func7, Tryd.ntmps7
      go_wp2_with (go_at_call 9; refine (leapYear_any _ (by omega) (by omega) _).mono ?_; rintro e w' ⟨rfl, rfl⟩)
      go_ret
      exact ⟨ret_int (by unfold mlen; rw [hl]; decide), rfl⟩
  · rcases (by omega : m = 1 ∨ m = 3 ∨ m = 4 ∨ m = 5 ∨ m = 6 ∨ m = 7 ∨ m = 8 ∨ m = 9 ∨ m = 10 ∨ m = 11 ∨ m = 12) with rfl | rfl | rfl | rfl | rfl | rfl | rfl | rfl | rfl | rfl | rfl
    all_goals
      go_enter Tryd.func7, Tryd.ntmps7
      go_wp2
      go_ret
      exact ⟨ret_int (by unfold mlen; rw [if_neg c2]; decide), rfl⟩

/-! ### THE TWO LAWS' WALKS -/
set_option maxHeartbeats 400000 in
/-- FnFirstOfMonthWeekdayAndCycle. -/
theorem walk4 (y m : Int) (w : World) (hT : Tab w) :
    Calls Tryd.prog 4 #[.int .i64 y, .int .i64 m] w fun e w' => e = .returned (.bool true) ∧ w' = w := by
  by_cases c1 : y < 1970
  · go_enter Tryd.func4, Tryd.ntmps4
    go_wp2
    go_ret
    exact ⟨rfl, rfl⟩
  by_cases c2 : 18014398509481983 < y
  · go_enter Tryd.func4, Tryd.ntmps4
    go_wp2
    go_ret
    exact ⟨rfl, rfl⟩
  by_cases c3 : m < 1
  · go_enter Tryd.func4, Tryd.ntmps4
    go_wp2
    go_ret
    exact ⟨rfl, rfl⟩
  by_cases c4 : 13 < m
  · go_enter Tryd.func4, Tryd.ntmps4
    go_wp2
    go_ret
    exact ⟨rfl, rfl⟩
  have b1 := fom_bd y (m := m) (by omega) (by omega) (by omega)
  have b2 := fom_bd (y + 400) (m := m) (by omega) (by omega) (by omega)
  have k1 := fom_cycle y m
  by_cases c5 : m ≤ 2
  · have k2 := zel_early y (m := m) (by omega) c5
    unfold zel at k2
    go_enter Tryd.func4, Tryd.ntmps4
    go_wp2_with (go_at_call 5; refine (zzfom_any _ _ (by omega) (by omega) (by omega) (by omega) _ hT).mono ?_; rintro e w' ⟨rfl, rfl⟩)
    go_ret
    exact ⟨rfl, rfl⟩
  · have k2 := zel_late y (m := m) (by omega) (by omega)
    unfold zel at k2
    go_enter Tryd.func4, Tryd.ntmps4
    go_wp2_with (go_at_call 5; refine (zzfom_any _ _ (by omega) (by omega) (by omega) (by omega) _ hT).mono ?_; rintro e w' ⟨rfl, rfl⟩)
    go_ret
    exact ⟨rfl, rfl⟩

set_option maxHeartbeats 400000 in
/-- FnFirstOfMonthIsCivilDayAndSteps. -/
theorem walk3 (y m : Int) (w : World) (hT : Tab w) :
    Calls Tryd.prog 3 #[.int .i64 y, .int .i64 m] w fun e w' => e = .returned (.bool true) ∧ w' = w := by
  by_cases c1 : y < 1970
  · go_enter Tryd.func3, Tryd.ntmps3
    go_wp2
    go_ret
    exact ⟨rfl, rfl⟩
  by_cases c2 : 18014398509481983 < y
  · go_enter Tryd.func3, Tryd.ntmps3
    go_wp2
    go_ret
    exact ⟨rfl, rfl⟩
  by_cases c3 : m < 1
  · go_enter Tryd.func3, Tryd.ntmps3
    go_wp2
    go_ret
    exact ⟨rfl, rfl⟩
  by_cases c4 : 13 < m
  · go_enter Tryd.func3, Tryd.ntmps3
    go_wp2
    go_ret
    exact ⟨rfl, rfl⟩
  by_cases c5 : m = 13
  · subst c5
    have b1 := fom_bd y (m := 13) (by omega) (by omega) (by omega)
    have b2 := fom_bd y (m := 12) (by omega) (by omega) (by omega)
    have k1 := civ_fom13 y
    have k2 := fom_dec y
    go_enter Tryd.func3, Tryd.ntmps3
    go_wp2_with (first
      | (go_at_call 5; refine (zzfom_any _ _ (by omega) (by omega) (by omega) (by omega) _ hT).mono ?_; rintro e w' ⟨rfl, rfl⟩)
      | (go_at_call 6; refine (civ_any _ _ (by omega) (by omega) (by omega) (by omega) _).mono ?_; rintro e w' ⟨rfl, rfl⟩))
    go_ret
    exact ⟨rfl, rfl⟩
  · have b1 := fom_bd y (m := m) (by omega) (by omega) (by omega)
    have b2 := fom_bd y (m := m + 1) (by omega) (by omega) (by omega)
    have k1 := civ_fom y (m := m) (by omega) (by omega)
    have k2 := fom_step y (m := m) (by omega) (by omega)
    go_enter Tryd.func3, Tryd.ntmps3
    go_wp2_with (first
      | (go_at_call 5; refine (zzfom_any _ _ (by omega) (by omega) (by omega) (by omega) _ hT).mono ?_; rintro e w' ⟨rfl, rfl⟩)
      | (go_at_call 6; refine (civ_any _ _ (by omega) (by omega) (by omega) (by omega) _).mono ?_; rintro e w' ⟨rfl, rfl⟩)
      | (go_at_call 7; refine (mlen_any _ _ (by omega) (by omega) (by omega) (by omega) _).mono ?_; rintro e w' ⟨rfl, rfl⟩))
    go_ret
    exact ⟨rfl, rfl⟩
end Go.Proofs.Qxb6613337aDoor
