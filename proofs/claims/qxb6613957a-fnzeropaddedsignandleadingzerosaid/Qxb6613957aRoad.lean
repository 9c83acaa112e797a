/-
  THE WALKS of the seat b6613957a: one contract a function, the callees first. Of Go's library the own text of strings.TrimPrefix and of what it calls is walked, handed one minus sign.
-/
import Derived.Test.Qxb6613957aRows
import Derived.Test.Qxb6613957aPlain
import Derived.WalkKit
import Derived.WalkSpells
namespace Go.Proofs.Qxb6613957a
open Go.RowKit Plain

theorem ret_bool {a b : Bool} (h : a = b) : Ending.returned (.bool a) = .returned (.bool b) := by rw [h]
theorem ret_string {a b : ByteArray} (h : a = b) : Ending.returned (.string a) = .returned (.string b) := by rw [h]

/-- internal/stringslite.HasPrefix at one minus sign. -/
theorem hasPrefix_any (s : ByteArray) (w : World) :
    Calls Try.prog 43 #[.string s, .string ⟨#[45]⟩] w fun e w' => e = .returned (.bool (minus s)) ∧ w' = w := by
  by_cases h : 1 ≤ s.size
  · have HM : Hid (((s.extract 0 1).toList == [45]) = minus s) := minus_take s h
    go_enter Try.func43, Try.ntmps43
    go_wp2
    go_ret
    exact ⟨ret_bool HM.out, rfl⟩
  · have HM : Hid (minus s = false) := minus_none s (by omega)
    go_enter Try.func43, Try.ntmps43
    go_wp2
    go_ret
    exact ⟨ret_bool HM.out.symm, rfl⟩

/-- internal/stringslite.TrimPrefix at one minus sign. -/
theorem liteTrim_any (s : ByteArray) (w : World) :
    Calls Try.prog 39 #[.string s, .string ⟨#[45]⟩] w fun e w' => e = .returned (.string (cut s)) ∧ w' = w := by
  cases hm : minus s
  · have HC : Hid (s = cut s) := cut_miss s hm
    go_enter Try.func39, Try.ntmps39
    go_wp2_with (go_at_call 43; refine (hasPrefix_any _ _).mono ?_; rintro e w' ⟨rfl, rfl⟩)
    go_ret
    exact ⟨ret_string HC.out, rfl⟩
  · have HC : Hid (s.extract 1 s.size = cut s) := cut_hit s hm
    have hs : 1 ≤ s.size := by
      by_cases h : 1 ≤ s.size
      · exact h
      · rw [minus_none s (by omega)] at hm
        cases hm
    go_enter Try.func39, Try.ntmps39
    go_wp2_with (go_at_call 43; refine (hasPrefix_any _ _).mono ?_; rintro e w' ⟨rfl, rfl⟩)
    go_ret
    exact ⟨ret_string HC.out, rfl⟩

/-- strings.TrimPrefix at one minus sign. -/
theorem trim_any (s : ByteArray) (w : World) :
    Calls Try.prog 34 #[.string s, .string ⟨#[45]⟩] w fun e w' => e = .returned (.string (cut s)) ∧ w' = w := by
  go_enter Try.func34, Try.ntmps34
  go_wp2_with (go_at_call 39; refine (liteTrim_any _ _).mono ?_; rintro e w' ⟨rfl, rfl⟩)
  go_ret
  exact ⟨rfl, rfl⟩

/-- zeroPadded, the cut text under a name of its own. -/
theorem zp_at (s u : ByteArray) (hu : Hid (cut s = u)) (hs : u.size ≤ 9223372036854775807) (w : World) :
    Calls Try.prog 29 #[.string s] w fun e w' => e = .returned (.bool (pad u)) ∧ w' = w := by
  by_cases h : 1 < u.size
  · have HP : Hid (pad u = ((u[0].toNat : Int) == 48)) := pad_at u h
    go_enter Try.func29, Try.ntmps29
    go_wp2_with (go_at_call 34; refine (trim_any _ _).mono ?_; rintro e w' ⟨rfl, rfl⟩; rw [hu.out])
    go_ret
    exact ⟨ret_bool HP.out.symm, rfl⟩
  · have HP : Hid (pad u = false) := pad_short u (by omega)
    go_enter Try.func29, Try.ntmps29
    go_wp2_with (go_at_call 34; refine (trim_any _ _).mono ?_; rintro e w' ⟨rfl, rfl⟩; rw [hu.out])
    go_ret
    exact ⟨ret_bool HP.out.symm, rfl⟩
/-- zeroPadded. -/
theorem zp_any (s : ByteArray) (hs : s.size ≤ 9223372036854775807) (w : World) :
    Calls Try.prog 29 #[.string s] w fun e w' => e = .returned (.bool (zp s)) ∧ w' = w :=
  zp_at s (cut s) (rfl : cut s = cut s) (Nat.le_trans (cut_size s) hs) w
/-- ZZzeroPadded. -/
theorem zzp_any (s : ByteArray) (hs : s.size ≤ 9223372036854775807) (w : World) :
    Calls Try.prog 9 #[.string s] w fun e w' => e = .returned (.bool (zp s)) ∧ w' = w := by
  go_enter Try.func9, Try.ntmps9
  go_wp2_with (go_at_call 29; refine (zp_any _ (by assumption) _).mono ?_; rintro e w' ⟨rfl, rfl⟩)
  go_ret
  exact ⟨rfl, rfl⟩

/-- zzSignless. -/
theorem signless_any (s : ByteArray) (hs : s.size ≤ 9223372036854775807) (w : World) :
    Calls Try.prog 11 #[.string s] w fun e w' => e = .returned (.string (cut s)) ∧ w' = w := by
  by_cases h : 0 < s.size
  · have hm := minus_at s h
    cases hb : minus s
    · have HC : Hid (s = cut s) := cut_miss s hb
      rw [hb] at hm
      have hm' := hm.symm
      clear hm hb
      go_enter Try.func11, Try.ntmps11
      go_wp2
      go_ret
      exact ⟨ret_string HC.out, rfl⟩
    · have HC : Hid (s.extract 1 s.size = cut s) := cut_hit s hb
      rw [hb] at hm
      have hm' := hm.symm
      clear hm hb
      go_enter Try.func11, Try.ntmps11
      go_wp2
      go_ret
      exact ⟨ret_string HC.out, rfl⟩
  · have HC : Hid (s = cut s) := cut_miss s (minus_none s (by omega))
    go_enter Try.func11, Try.ntmps11
    go_wp2
    go_ret
    exact ⟨ret_string HC.out, rfl⟩

set_option maxHeartbeats 400000 in
/-- zzDropLeadingZeros: what it leaves is shorter exactly where the text is padded. -/
theorem drop_any (u : ByteArray) (hs : u.size ≤ 1048576) (w : World) :
    Calls Try.prog 12 #[.string u] w fun e w' => ∃ r : ByteArray, e = .returned (.string r) ∧ Behind u r ∧ w' = w := by
  go_enter Try.func12, Try.ntmps12
  go_wp2
  go_loop [3] (fun i => ∃ k : Nat, k ≤ u.size ∧ i = .int .i64 k ∧ (0 < k → pad u = true ∧ k < u.size)) (fun i => u.size - (intOf i).toNat)
  case atStart => exact ⟨0, Nat.zero_le _, rfl, fun h => absurd h (Nat.lt_irrefl 0)⟩
  case round =>
    obtain ⟨k, hk, rfl, hp⟩ := hrel
    have HP : Hid (0 < k → pad u = true ∧ k < u.size) := hp
    clear hp
    by_cases hlt : k + 1 < u.size
    · have hk1 : k < u.size := by omega
      cases hz : ((u[k].toNat : Int) == 48)
      · have HE : Hid (k = 0 → pad u = false) := drop_stop u k hk1 (by omega) hz
        go_wp2
        go_ret
        exact ⟨_, rfl, drop_end u k HP.out HE.out, rfl⟩
      · have HE : Hid (pad u = true) := drop_go u k hk1 (by omega) hz HP.out
        go_wp2
        go_round
        case rel => exact ⟨k + 1, by omega, by go_num, fun _ => ⟨HE.out, hlt⟩⟩
        case measure => simp [intOf]; omega
    · have HE : Hid (k = 0 → pad u = false) := fun h => pad_short u (by omega)
      go_wp2
      go_ret
      exact ⟨_, rfl, drop_end u k HP.out HE.out, rfl⟩

/-- zzBytes_FnZeroPaddedSignAndLeadingZero. -/
theorem bytes8 (s : ByteArray) (hs : s.size ≤ 1048576) (w : World) :
    Calls Try.prog 8 #[.string s] w fun e w' => e = .returned (.bool true) ∧ w' = w := by
  go_enter Try.func8, Try.ntmps8
  go_wp2
  go_ret
  exact ⟨rfl, rfl⟩
theorem bytes8_not (s : ByteArray) (hs : 1048576 < s.size) (w : World) :
    Calls Try.prog 8 #[.string s] w fun e w' => e = .returned (.bool false) ∧ w' = w := by
  go_enter Try.func8, Try.ntmps8
  go_wp2
  go_ret
  exact ⟨rfl, rfl⟩
/-- zzBytes_FnZeroPaddedJoinAndModel. -/
theorem bytes10 (s t : ByteArray) (hs : s.size + t.size ≤ 1048576) (w : World) :
    Calls Try.prog 10 #[.string s, .string t] w fun e w' => e = .returned (.bool true) ∧ w' = w := by
  go_enter Try.func10, Try.ntmps10
  go_wp2
  go_ret
  exact ⟨rfl, rfl⟩
theorem bytes10_not (s t : ByteArray) (hs : 1048576 < s.size + t.size) (w : World) :
    Calls Try.prog 10 #[.string s, .string t] w fun e w' => e = .returned (.bool false) ∧ w' = w := by
  by_cases h1 : 1048576 < s.size
  · go_enter Try.func10, Try.ntmps10
    go_wp2
    go_ret
    exact ⟨rfl, rfl⟩
  by_cases h2 : 1048576 < t.size
  · go_enter Try.func10, Try.ntmps10
    go_wp2
    go_ret
    exact ⟨rfl, rfl⟩
  · go_enter Try.func10, Try.ntmps10
    go_wp2
    go_ret
    exact ⟨rfl, rfl⟩
end Go.Proofs.Qxb6613957a
