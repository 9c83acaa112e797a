/-
  THE WALKS of the seat b6613337a: one contract a function, the callees first.
-/
import Derived.Test.Qxb6613337aRows
import Derived.Test.Qxb6613337aPlain
import Derived.WalkKit
import Derived.WalkSpells
namespace Go.Proofs.Qxb6613337a
open Go.RowKit Plain

theorem ret_int {k : IntKind} {a b : Int} (h : a = b) : Ending.returned (.int k a) = .returned (.int k b) := by rw [h]

theorem ret_bool {a b : Bool} (h : a = b) : Ending.returned (.bool a) = .returned (.bool b) := by rw [h]

/-- leapYearsThrough. -/
theorem lyt_any (y : Int) (h0 : 0 ≤ y) (h1 : y ≤ 9223372036854775807) (w : World) :
    Calls Try.prog 12 #[.int .i64 y] w fun e w' => e = .returned (.int .i64 (lyt y)) ∧ w' = w := by
  go_enter Try.func12, Try.ntmps12
  go_wp2
  go_ret
  exact ⟨rfl, rfl⟩

/-- ZZleapYearsThrough. -/
theorem zzlyt_any (y : Int) (h0 : 0 ≤ y) (h1 : y ≤ 9223372036854775807) (w : World) :
    Calls Try.prog 7 #[.int .i64 y] w fun e w' => e = .returned (.int .i64 (lyt y)) ∧ w' = w := by
  go_enter Try.func7, Try.ntmps7
  go_wp2_with (go_at_call 12; refine (lyt_any _ (by omega) (by omega) _).mono ?_; rintro e w' ⟨rfl, rfl⟩)
  go_ret
  exact ⟨rfl, rfl⟩

/-- firstOfYear. -/
theorem foy_any (y : Int) (h0 : 1970 ≤ y) (h1 : y ≤ 20000000000000000) (w : World) :
    Calls Try.prog 13 #[.int .i64 y] w fun e w' => e = .returned (.int .i64 (foy y)) ∧ w' = w := by
  have hb := lyt_bd (y - 1) (by omega)
  have h9 := lyt_1969
  go_enter Try.func13, Try.ntmps13
  go_wp2_with (go_at_call 12; refine (lyt_any _ (by omega) (by omega) _).mono ?_; rintro e w' ⟨rfl, rfl⟩)
  go_ret
  exact ⟨ret_int (by unfold foy; omega), rfl⟩

/-- ZZfirstOfYear. -/
theorem zzfoy_any (y : Int) (h0 : 1970 ≤ y) (h1 : y ≤ 20000000000000000) (w : World) :
    Calls Try.prog 10 #[.int .i64 y] w fun e w' => e = .returned (.int .i64 (foy y)) ∧ w' = w := by
  go_enter Try.func10, Try.ntmps10
  go_wp2_with (go_at_call 13; refine (foy_any _ (by omega) (by omega) _).mono ?_; rintro e w' ⟨rfl, rfl⟩)
  go_ret
  exact ⟨rfl, rfl⟩

/-- isLeapYear. -/
theorem leap_any (y : Int) (h0 : 0 ≤ y) (h1 : y ≤ 9223372036854775807) (w : World) :
    Calls Try.prog 9 #[.int .i64 y] w fun e w' => e = .returned (.bool (leapB y)) ∧ w' = w := by
  by_cases c1 : y % 4 = 0
  · by_cases c2 : y % 100 = 0
    · by_cases c3 : y % 400 = 0
      · have hl : leapB y = true := leapB_mk (by omega)
        go_enter Try.func9, Try.ntmps9
        go_wp2
        go_ret
        exact ⟨ret_bool (by simp [*]), rfl⟩
      · have hl : leapB y = false := leapB_not (by omega)
        go_enter Try.func9, Try.ntmps9
        go_wp2
        go_ret
        exact ⟨ret_bool (by simp [*]), rfl⟩
    · have hl : leapB y = true := leapB_mk (by omega)
      go_enter Try.func9, Try.ntmps9
      go_wp2
      go_ret
      exact ⟨ret_bool (by simp [*]), rfl⟩
  · have hl : leapB y = false := leapB_not (by omega)
    go_enter Try.func9, Try.ntmps9
    go_wp2
    go_ret
    exact ⟨ret_bool (by simp [*]), rfl⟩

/-- civilDays at 1 January. -/
theorem civ1_any (y : Int) (h0 : 1970 ≤ y) (h1 : y ≤ 20000000000000000) (w : World) :
    Calls Try.prog 11 #[.int .i64 y, .int .i64 1, .int .i64 1] w fun e w' => e = .returned (.int .i64 (civ1 y)) ∧ w' = w := by
  go_enter Try.func11, Try.ntmps11
  go_wp2
  go_ret
  exact ⟨ret_int (by unfold civ1; omega), rfl⟩

set_option maxHeartbeats 400000 in
/-- leapsUpTo. -/
theorem upto_any (r : Int) (h0 : 0 ≤ r) (h1 : r < 400) (w : World) :
    Calls Try.prog 8 #[.int .i64 r] w fun e w' => e = .returned (.int .i64 (lyt r)) ∧ w' = w := by
  go_enter Try.func8, Try.ntmps8
  go_wp2
  go_loop [3, 4] (fun c k => ∃ n : Int, 0 ≤ n ∧ n ≤ r ∧ k = .int .i64 (n + 1) ∧ c = .int .i64 (lyt n)) (fun _ k => (401 - intOf k).toNat)
  case atStart => exact ⟨0, by omega, by omega, rfl, rfl⟩
  case round =>
    obtain ⟨n, hn0, hn1, rfl, rfl⟩ := hrel
    have hb := lyt_bd n hn0
    by_cases hlt : n + 1 ≤ r
    · cases hl : leapB (n + 1)
      · have hs := lyt_common (n + 1) hl
        have HS : Hid (lyt (n + 1) = lyt n) := by
          have e : n + 1 - 1 = n := by omega
          rw [e] at hs
          exact (by omega : lyt (n + 1) = lyt n)
        clear hs
        go_wp2_with (go_at_call 9; refine (leap_any _ (by omega) (by omega) _).mono ?_; rintro e w' ⟨rfl, rfl⟩)
        go_round
        case rel => exact ⟨n + 1, by omega, by omega, rfl, by rw [HS.out]⟩
        case measure => simp [intOf]; omega
      · have hs := lyt_leap (n + 1) hl
        have HS : Hid (lyt (n + 1) = lyt n + 1) := by
          have e : n + 1 - 1 = n := by omega
          rw [e] at hs
          exact (by omega : lyt (n + 1) = lyt n + 1)
        clear hs
        go_wp2_with (go_at_call 9; refine (leap_any _ (by omega) (by omega) _).mono ?_; rintro e w' ⟨rfl, rfl⟩)
        go_round
        case rel => exact ⟨n + 1, by omega, by omega, rfl, by rw [HS.out]⟩
        case measure => simp [intOf]; omega
    · obtain rfl : n = r := by omega
      go_wp2
      go_ret
      exact ⟨rfl, rfl⟩
end Go.Proofs.Qxb6613337a
