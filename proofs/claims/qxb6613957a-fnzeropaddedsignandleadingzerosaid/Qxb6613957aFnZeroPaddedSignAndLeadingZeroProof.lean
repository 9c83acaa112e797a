/-
  A PROOF OF 'Rows.FnZeroPaddedSignAndLeadingZeroSaid': the guide's shell for this function, its walk filled in.
-/
import Derived.Test.Qxb6613957aRows
import Derived.WalkKit
import Derived.ProofKit
import Derived.OpenShut
import Derived.ShutString
import Derived.Test.Qxb6613957aRoad
namespace Go.Proofs.Qxb6613957a.fnZeroPaddedSignAndLeadingZero
open Go.ChangeShapes Go.WideShapes Go.ChangeAt Go.RowKit
open Go.ChangeMaps (open_string shut_string)
set_option linter.unusedVariables false      -- a walk need not use every 'w<i>' (that an integer argument fits its kind)

theorem own : ownKnob Try.prog.godebug = none := by kernel_rfl

/-! ### STEP 1: THE WALK -/
theorem walk (a0 : ByteArray) (w0 : a0.size ≤ maxLen) (w : World) :
    Calls Try.prog 3 #[.string a0] w fun e w' => e = .returned (.bool true) ∧ Grown w w' := by
  clear w0
  by_cases c1 : 1048576 < a0.size
  · go_enter Try.func3, Try.ntmps3
    go_wp2_with (go_at_call 8; refine (bytes8_not _ c1 _).mono ?_; rintro e w' ⟨rfl, rfl⟩)
    go_ret
    exact ⟨rfl, Grown.refl _⟩
  have c1' : a0.size ≤ 1048576 := by omega
  by_cases c2 : 524288 < a0.size
  · go_enter Try.func3, Try.ntmps3
    go_wp2_with (go_at_call 8; refine (bytes8 _ c1' _).mono ?_; rintro e w' ⟨rfl, rfl⟩)
    go_ret
    exact ⟨rfl, Grown.refl _⟩
  have H1 := fun w => zzp_any (⟨#[45]⟩ ++ a0) (by rw [ByteArray.size_append]; exact (by omega : 1 + a0.size ≤ 9223372036854775807)) w
  have H2 := fun w => zzp_any a0 (by omega) w
  have H3 := fun w => zzp_any (⟨#[48]⟩ ++ a0) (by rw [ByteArray.size_append]; exact (by omega : 1 + a0.size ≤ 9223372036854775807)) w
  have H4 := fun w => zzp_any (⟨#[45, 48]⟩ ++ a0) (by rw [ByteArray.size_append]; exact (by omega : 2 + a0.size ≤ 9223372036854775807)) w
  rw [Plain.zp_signed] at H1
  rw [Plain.zp_zero] at H3
  rw [Plain.zp_minus_zero] at H4
  by_cases c3 : 0 < a0.size
  · have hm := Plain.minus_at a0 c3
    rw [decide_eq_true c3] at H3 H4
    cases hb : Plain.minus a0
    · rw [Plain.zp_unsigned a0 hb] at H2
      rw [hb] at hm
      have hm' := hm.symm
      have K1 : Hid (∀ w, Calls Try.prog 9 #[.string (⟨#[45]⟩ ++ a0)] w fun e w' => e = .returned (.bool (Plain.pad a0)) ∧ w' = w) := H1
      have K2 : Hid (∀ w, Calls Try.prog 9 #[.string a0] w fun e w' => e = .returned (.bool (Plain.pad a0)) ∧ w' = w) := H2
      have K3 : Hid (∀ w, Calls Try.prog 9 #[.string (⟨#[48]⟩ ++ a0)] w fun e w' => e = .returned (.bool true) ∧ w' = w) := H3
      have K4 : Hid (∀ w, Calls Try.prog 9 #[.string (⟨#[45, 48]⟩ ++ a0)] w fun e w' => e = .returned (.bool true) ∧ w' = w) := H4
      clear H1 H2 H3 H4 hm hb
      go_enter Try.func3, Try.ntmps3
      go_wp2_with (go_at_call 8; refine (bytes8 _ c1' _).mono ?_; rintro e w' ⟨rfl, rfl⟩)
      refine (K1.out _).mono ?_
      rintro e w' ⟨rfl, rfl⟩
      go_wp2_with fail
      refine (K2.out _).mono ?_
      rintro e w' ⟨rfl, rfl⟩
      go_wp2_with fail
      refine (K3.out _).mono ?_
      rintro e w' ⟨rfl, rfl⟩
      go_wp2_with fail
      refine (K4.out _).mono ?_
      rintro e w' ⟨rfl, rfl⟩
      go_wp2_with fail
      go_ret
      exact ⟨rfl, Grown.refl _⟩
    · rw [Plain.pad_minus a0 hb] at H1
      rw [hb] at hm
      have hm' := hm.symm
      have K1 : Hid (∀ w, Calls Try.prog 9 #[.string (⟨#[45]⟩ ++ a0)] w fun e w' => e = .returned (.bool false) ∧ w' = w) := H1
      have K3 : Hid (∀ w, Calls Try.prog 9 #[.string (⟨#[48]⟩ ++ a0)] w fun e w' => e = .returned (.bool true) ∧ w' = w) := H3
      have K4 : Hid (∀ w, Calls Try.prog 9 #[.string (⟨#[45, 48]⟩ ++ a0)] w fun e w' => e = .returned (.bool true) ∧ w' = w) := H4
      clear H1 H2 H3 H4 hm hb
      go_enter Try.func3, Try.ntmps3
      go_wp2_with (go_at_call 8; refine (bytes8 _ c1' _).mono ?_; rintro e w' ⟨rfl, rfl⟩)
      refine (K1.out _).mono ?_
      rintro e w' ⟨rfl, rfl⟩
      go_wp2_with fail
      refine (K3.out _).mono ?_
      rintro e w' ⟨rfl, rfl⟩
      go_wp2_with fail
      refine (K4.out _).mono ?_
      rintro e w' ⟨rfl, rfl⟩
      go_wp2_with fail
      go_ret
      exact ⟨rfl, Grown.refl _⟩
  · have h0 : a0.size = 0 := by omega
    rw [Plain.pad_short a0 (by omega)] at H1
    rw [Plain.zp_unsigned a0 (Plain.minus_none a0 h0), Plain.pad_short a0 (by omega)] at H2
    rw [decide_eq_false c3] at H3 H4
    have K1 : Hid (∀ w, Calls Try.prog 9 #[.string (⟨#[45]⟩ ++ a0)] w fun e w' => e = .returned (.bool false) ∧ w' = w) := H1
    have K2 : Hid (∀ w, Calls Try.prog 9 #[.string a0] w fun e w' => e = .returned (.bool false) ∧ w' = w) := H2
    have K3 : Hid (∀ w, Calls Try.prog 9 #[.string (⟨#[48]⟩ ++ a0)] w fun e w' => e = .returned (.bool false) ∧ w' = w) := H3
    have K4 : Hid (∀ w, Calls Try.prog 9 #[.string (⟨#[45, 48]⟩ ++ a0)] w fun e w' => e = .returned (.bool false) ∧ w' = w) := H4
    have h1 : a0.size ≤ 0 := by omega
    clear H1 H2 H3 H4 h0
    go_enter Try.func3, Try.ntmps3
    go_wp2_with (go_at_call 8; refine (bytes8 _ c1' _).mono ?_; rintro e w' ⟨rfl, rfl⟩)
    refine (K1.out _).mono ?_
    rintro e w' ⟨rfl, rfl⟩
    go_wp2_with fail
    refine (K2.out _).mono ?_
    rintro e w' ⟨rfl, rfl⟩
    go_wp2_with fail
    refine (K3.out _).mono ?_
    rintro e w' ⟨rfl, rfl⟩
    go_wp2_with fail
    refine (K4.out _).mono ?_
    rintro e w' ⟨rfl, rfl⟩
    go_wp2_with fail
    go_ret
    exact ⟨rfl, Grown.refl _⟩

/-! ### THE ROW's STEP: WRITTEN OUT: LEAVE IT -/
set_option maxRecDepth 100000 in
theorem lifted (os : Os) (started : os.Started) (H : Type) (enc : TypeId × Value → H) :
    ReturnsInHanded {} Try.checked os 3 .any (Rows.fnZeroPaddedSignAndLeadingZeroSpec.pre6 enc Try.prog Try.f3 Rows.fnZeroPaddedSignAndLeadingZeroRow.domain false) (Rows.fnZeroPaddedSignAndLeadingZeroSpec.post enc Try.prog Try.f3 false true false false) := by
  refine returnsInHanded_of_change (C := Try.checked) own started (by kernel_rfl) Try.func3
    (ChangeSpec.witness6 (enc := enc) (C := Try.checked) false ⟨#[], #[.string ByteArray.empty], []⟩ 8 (by kernel_rfl) (by kernel_rfl) (by kernel_rfl) (by kernel_rfl)) ?_
  intro W base args ds gs before hval0 hW hcnd _
  have hval : ∀ (j : Nat) t v, Try.f3.params[j]? = some t → args[j]? = some v → Value.okWide Try.prog W .any base t v := hval0
  have hW' := hW
  obtain ⟨p, q, hA0, hV, rfl, hfz, hnd⟩ := hW
  have hA : DataW.TrodAll enc Try.prog W 0 (fun _ => true) true Try.f3.params.toList args.toList ds p := hA0
  rw [Try.params3] at hA hval
  obtain ⟨v0, vs0, d0, ds0, p0, q0, hargs, rfl, rfl, h0, r0⟩ := trodAll_cons hA
  obtain ⟨rfl, rfl, rfl⟩ := trodAll_nil r0
  obtain rfl : args = #[v0] := by cases args; simp_all
  obtain ⟨rfl, rfl⟩ := trodVars_none hV
  obtain ⟨a0, rfl, rfl, rfl, w0⟩ := open_string Try.underlying9 (hval 0 9 v0 rfl rfl) h0
  clear hA0 hval0
  simp only [List.append_nil] at hW'
  refine (walk a0 w0 W).mono fun e W' ⟨he, hg⟩ => ?_
  subst he
  exact ⟨_, rfl, post_of_same (pa := []) (pv := []) hW' (fun _ _ _ => (trodAll_cons_mk (shut_bool Try.underlying4 _) trodAll_mk0)) (fun sp _ => (trodAll_cons_mk (shut_string Try.underlying9 w0) trodAll_mk0)) (fun _ _ => rfl) rfl
    (hg.frame _) hg.2.1 (ok_one (by kernel_rfl) rfl (okWide_bool_mk Try.underlying4 _))⟩

theorem over : Rows.fnZeroPaddedSignAndLeadingZeroRow.holds Try.pinned (OpenSpec.ofChange Rows.fnZeroPaddedSignAndLeadingZeroSpec) :=
  OpenClaim.holds_of_wide 3 Try.f3 rfl rfl rfl rfl rfl rfl rfl ⟨rfl, rfl, rfl, rfl, rfl⟩ rfl rfl rfl rfl rfl (by kernel_rfl) Try.func3 (by kernel_rfl)
    (of_decide_eq_true (by kernel_rfl)) (by unfold Func.isWrapper; first | (rw [if_pos (by decide +kernel)]; kernel_rfl) | (rw [if_neg (by decide +kernel)]; exact ⟨rfl, rfl⟩))
    (fun os started H enc _ => lifted os started H enc)

/-- ████ THE STATEMENT ████ -/
theorem proved : Rows.FnZeroPaddedSignAndLeadingZeroSaid :=
  over
#print axioms proved
end Go.Proofs.Qxb6613957a.fnZeroPaddedSignAndLeadingZero
