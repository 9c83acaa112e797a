/-
  A PROOF OF 'Rows.FnZeroPaddedJoinAndModelSaid': the guide's shell for this function, its walk filled in.
-/
import Derived.Test.Qxb6613957aRows
import Derived.WalkKit
import Derived.ProofKit
import Derived.OpenShut
import Derived.ShutString
import Derived.Test.Qxb6613957aRoad
namespace Go.Proofs.Qxb6613957a.fnZeroPaddedJoinAndModel
open Go.ChangeShapes Go.WideShapes Go.ChangeAt Go.RowKit
open Go.ChangeMaps (open_string shut_string)
set_option linter.unusedVariables false      -- a walk need not use every 'w<i>' (that an integer argument fits its kind)

theorem own : ownKnob Try.prog.godebug = none := by kernel_rfl

/-! ### STEP 1: THE WALK -/
/-- The way behind the bounds, the cut text under a name of its own, each callee by a contract that is handed in. -/
theorem core (s t u : ByteArray) (b : Bool) (c1 : s.size ≤ 524288) (c2 : t.size ≤ 524288) (hu : u.size ≤ s.size) (w : World)
    (KS : Hid (∀ w, Calls Try.prog 11 #[.string s] w fun e w' => e = .returned (.string u) ∧ w' = w))
    (KZ : Hid (∀ w, Calls Try.prog 9 #[.string s] w fun e w' => e = .returned (.bool (Plain.pad u)) ∧ w' = w))
    (KA : Hid (∀ w, Calls Try.prog 9 #[.string (s ++ t)] w fun e w' => e = .returned (.bool b) ∧ w' = w))
    (HB : Hid (0 < u.size → b = (Plain.pad u || (u.toList == [48] && decide (0 < t.size))))) :
    Calls Try.prog 4 #[.string s, .string t] w fun e w' => e = .returned (.bool true) ∧ Grown w w' := by
  have c3 : s.size + t.size ≤ 1048576 := by omega
  cases hp : Plain.pad u
  · rw [hp] at KZ HB
    have HP : Hid (Plain.pad u = false) := hp
    clear hp
    by_cases h0 : u.size = 0
    · have h1 : u.size ≤ 0 := by omega
      clear h0
      go_enter Try.func4, Try.ntmps4
      go_wp2_with (go_at_call 10; refine (bytes10 _ _ c3 _).mono ?_; rintro e w' ⟨rfl, rfl⟩)
      refine (KS.out _).mono ?_
      rintro e w' ⟨rfl, rfl⟩
      go_wp2_with fail
      refine (KZ.out _).mono ?_
      rintro e w' ⟨rfl, rfl⟩
      go_wp2_with fail
      refine (drop_any u (by omega) _).mono ?_
      rintro e w' ⟨r, rfl, hr, rfl⟩
      have hr' : ¬ (r.size : Int) < u.size := by have := hr.whole HP.out; omega
      go_wp2_with fail
      go_ret
      exact ⟨rfl, Grown.refl _⟩
    · have h1 : 0 < u.size := by omega
      have hb := HB.out h1
      cases hz : (u.toList == [48])
      · rw [hz] at hb
        simp only [Bool.false_and, Bool.or_false] at hb
        subst hb
        go_enter Try.func4, Try.ntmps4
        go_wp2_with (go_at_call 10; refine (bytes10 _ _ c3 _).mono ?_; rintro e w' ⟨rfl, rfl⟩)
        refine (KS.out _).mono ?_
        rintro e w' ⟨rfl, rfl⟩
        go_wp2_with fail
        refine (KZ.out _).mono ?_
        rintro e w' ⟨rfl, rfl⟩
        go_wp2_with fail
        refine (drop_any u (by omega) _).mono ?_
        rintro e w' ⟨r, rfl, hr, rfl⟩
        have hr' : ¬ (r.size : Int) < u.size := by have := hr.whole HP.out; omega
        go_wp2_with fail
        refine (KA.out _).mono ?_
        rintro e w' ⟨rfl, rfl⟩
        go_wp2_with fail
        go_ret
        exact ⟨rfl, Grown.refl _⟩
      · rw [hz] at hb
        simp only [Bool.true_and, Bool.false_or] at hb
        by_cases ht : 0 < t.size
        · rw [decide_eq_true ht] at hb
          subst hb
          go_enter Try.func4, Try.ntmps4
          go_wp2_with (go_at_call 10; refine (bytes10 _ _ c3 _).mono ?_; rintro e w' ⟨rfl, rfl⟩)
          refine (KS.out _).mono ?_
          rintro e w' ⟨rfl, rfl⟩
          go_wp2_with fail
          refine (KZ.out _).mono ?_
          rintro e w' ⟨rfl, rfl⟩
          go_wp2_with fail
          refine (drop_any u (by omega) _).mono ?_
          rintro e w' ⟨r, rfl, hr, rfl⟩
          have hr' : ¬ (r.size : Int) < u.size := by have := hr.whole HP.out; omega
          go_wp2_with fail
          refine (KA.out _).mono ?_
          rintro e w' ⟨rfl, rfl⟩
          go_wp2_with fail
          go_ret
          exact ⟨rfl, Grown.refl _⟩
        · rw [decide_eq_false ht] at hb
          subst hb
          have ht' : t.size ≤ 0 := by omega
          go_enter Try.func4, Try.ntmps4
          go_wp2_with (go_at_call 10; refine (bytes10 _ _ c3 _).mono ?_; rintro e w' ⟨rfl, rfl⟩)
          refine (KS.out _).mono ?_
          rintro e w' ⟨rfl, rfl⟩
          go_wp2_with fail
          refine (KZ.out _).mono ?_
          rintro e w' ⟨rfl, rfl⟩
          go_wp2_with fail
          refine (drop_any u (by omega) _).mono ?_
          rintro e w' ⟨r, rfl, hr, rfl⟩
          have hr' : ¬ (r.size : Int) < u.size := by have := hr.whole HP.out; omega
          go_wp2_with fail
          refine (KA.out _).mono ?_
          rintro e w' ⟨rfl, rfl⟩
          go_wp2_with fail
          go_ret
          exact ⟨rfl, Grown.refl _⟩
  · have h1 : 0 < u.size := by
      by_cases h : 0 < u.size
      · exact h
      · rw [Plain.pad_short u (by omega)] at hp
        cases hp
    have hb := HB.out h1
    rw [hp] at KZ hb
    have HP : Hid (Plain.pad u = true) := hp
    clear hp HB
    simp only [Bool.true_or] at hb
    subst hb
    go_enter Try.func4, Try.ntmps4
    go_wp2_with (go_at_call 10; refine (bytes10 _ _ c3 _).mono ?_; rintro e w' ⟨rfl, rfl⟩)
    refine (KS.out _).mono ?_
    rintro e w' ⟨rfl, rfl⟩
    go_wp2_with fail
    refine (KZ.out _).mono ?_
    rintro e w' ⟨rfl, rfl⟩
    go_wp2_with fail
    refine (drop_any u (by omega) _).mono ?_
    rintro e w' ⟨r, rfl, hr, rfl⟩
    have hr' : (r.size : Int) < u.size := by have := hr.padded HP.out; omega
    go_wp2_with fail
    refine (KA.out _).mono ?_
    rintro e w' ⟨rfl, rfl⟩
    go_wp2_with fail
    go_ret
    exact ⟨rfl, Grown.refl _⟩

theorem walk (a0 : ByteArray) (a1 : ByteArray) (w0 : a0.size ≤ maxLen) (w1 : a1.size ≤ maxLen) (w : World) :
    Calls Try.prog 4 #[.string a0, .string a1] w fun e w' => e = .returned (.bool true) ∧ Grown w w' := by
  clear w0 w1
  by_cases c0 : 1048576 < a0.size + a1.size
  · go_enter Try.func4, Try.ntmps4
    go_wp2_with (go_at_call 10; refine (bytes10_not _ _ c0 _).mono ?_; rintro e w' ⟨rfl, rfl⟩)
    go_ret
    exact ⟨rfl, Grown.refl _⟩
  have c0' : a0.size + a1.size ≤ 1048576 := by omega
  by_cases c1 : 524288 < a0.size
  · go_enter Try.func4, Try.ntmps4
    go_wp2_with (go_at_call 10; refine (bytes10 _ _ c0' _).mono ?_; rintro e w' ⟨rfl, rfl⟩)
    go_ret
    exact ⟨rfl, Grown.refl _⟩
  by_cases c2 : 524288 < a1.size
  · go_enter Try.func4, Try.ntmps4
    go_wp2_with (go_at_call 10; refine (bytes10 _ _ c0' _).mono ?_; rintro e w' ⟨rfl, rfl⟩)
    go_ret
    exact ⟨rfl, Grown.refl _⟩
  exact core a0 a1 (Plain.cut a0) (Plain.zp (a0 ++ a1)) (by omega) (by omega) (Plain.cut_size a0) w
    (fun w => signless_any a0 (by omega) w) (fun w => zzp_any a0 (by omega) w)
    (fun w => zzp_any (a0 ++ a1) (by rw [ByteArray.size_append]; omega) w) (fun h => Plain.zp_append a0 a1 h)

/-! ### THE ROW's STEP: WRITTEN OUT: LEAVE IT -/
set_option maxRecDepth 100000 in
theorem lifted (os : Os) (started : os.Started) (H : Type) (enc : TypeId × Value → H) :
    ReturnsInHanded {} Try.checked os 4 .any (Rows.fnZeroPaddedJoinAndModelSpec.pre6 enc Try.prog Try.f4 Rows.fnZeroPaddedJoinAndModelRow.domain false) (Rows.fnZeroPaddedJoinAndModelSpec.post enc Try.prog Try.f4 false true false false) := by
  refine returnsInHanded_of_change (C := Try.checked) own started (by kernel_rfl) Try.func4
    (ChangeSpec.witness6 (enc := enc) (C := Try.checked) false ⟨#[], #[.string ByteArray.empty, .string ByteArray.empty], []⟩ 8 (by kernel_rfl) (by kernel_rfl) (by kernel_rfl) (by kernel_rfl)) ?_
  intro W base args ds gs before hval0 hW hcnd _
  have hval : ∀ (j : Nat) t v, Try.f4.params[j]? = some t → args[j]? = some v → Value.okWide Try.prog W .any base t v := hval0
  have hW' := hW
  obtain ⟨p, q, hA0, hV, rfl, hfz, hnd⟩ := hW
  have hA : DataW.TrodAll enc Try.prog W 0 (fun _ => true) true Try.f4.params.toList args.toList ds p := hA0
  rw [Try.params4] at hA hval
  obtain ⟨v0, vs0, d0, ds0, p0, q0, hargs, rfl, rfl, h0, r0⟩ := trodAll_cons hA
  obtain ⟨v1, vs1, d1, ds1, p1, q1, rfl, rfl, rfl, h1, r1⟩ := trodAll_cons r0
  obtain ⟨rfl, rfl, rfl⟩ := trodAll_nil r1
  obtain rfl : args = #[v0, v1] := by cases args; simp_all
  obtain ⟨rfl, rfl⟩ := trodVars_none hV
  obtain ⟨a0, rfl, rfl, rfl, w0⟩ := open_string Try.underlying9 (hval 0 9 v0 rfl rfl) h0
  obtain ⟨a1, rfl, rfl, rfl, w1⟩ := open_string Try.underlying9 (hval 1 9 v1 rfl rfl) h1
  clear hA0 hval0
  simp only [List.append_nil] at hW'
  refine (walk a0 a1 w0 w1 W).mono fun e W' ⟨he, hg⟩ => ?_
  subst he
  exact ⟨_, rfl, post_of_same (pa := []) (pv := []) hW' (fun _ _ _ => (trodAll_cons_mk (shut_bool Try.underlying4 _) trodAll_mk0)) (fun sp _ => (trodAll_cons_mk (shut_string Try.underlying9 w0) (trodAll_cons_mk (shut_string Try.underlying9 w1) trodAll_mk0))) (fun _ _ => rfl) rfl
    (hg.frame _) hg.2.1 (ok_one (by kernel_rfl) rfl (okWide_bool_mk Try.underlying4 _))⟩

theorem over : Rows.fnZeroPaddedJoinAndModelRow.holds Try.pinned (OpenSpec.ofChange Rows.fnZeroPaddedJoinAndModelSpec) :=
  OpenClaim.holds_of_wide 4 Try.f4 rfl rfl rfl rfl rfl rfl rfl ⟨rfl, rfl, rfl, rfl, rfl⟩ rfl rfl rfl rfl rfl (by kernel_rfl) Try.func4 (by kernel_rfl)
    (of_decide_eq_true (by kernel_rfl)) (by unfold Func.isWrapper; first | (rw [if_pos (by decide +kernel)]; kernel_rfl) | (rw [if_neg (by decide +kernel)]; exact ⟨rfl, rfl⟩))
    (fun os started H enc _ => lifted os started H enc)

/-- ████ THE STATEMENT ████ -/
theorem proved : Rows.FnZeroPaddedJoinAndModelSaid :=
  over
#print axioms proved
end Go.Proofs.Qxb6613957a.fnZeroPaddedJoinAndModel
