/-
  THE PROOF OF 'Rows.FnIntakeFullSeparatesLimitsSaid'. The frame ('lifted', 'over', 'proved') is the given shell's, at 'Below' in the place of 'Grown'; the walk takes ZZIntakeFull by its contract.
-/
import Derived.Test.Qxb6604373aRows
import Derived.WalkKit
import Derived.ProofKit
import Derived.OpenShut
import Derived.ShutString
import Derived.Test.Qxb6604373aIntake
namespace Go.Proofs.Qxb6604373a.fnIntakeFullSeparatesLimits
open Go.ChangeShapes Go.WideShapes Go.ChangeAt Go.RowKit
open Go.ChangeMaps (open_string shut_string)
set_option linter.unusedVariables false      -- a walk need not use every 'w<i>' (that an integer argument fits its kind)

theorem own : ownKnob Try.prog.godebug = none := by kernel_rfl

/-! ### STEP 1: THE WALK -/
set_option maxHeartbeats 4000000 in
theorem walk (a0 : Int) (a1 : Int) (w0 : (Lit.int .i64 a0).wf = true) (w1 : (Lit.int .i64 a1).wf = true) (w : World) :
    Calls Try.prog 6 #[.int .i64 a0, .int .i64 a1] w fun e w' => e = .returned (.bool true) ∧ Below w.heap.size w w' := by
  have bd0 := bounds_i64 w0
  have bd1 := bounds_i64 w1
  clear w0 w1
  have hb0 := Below.refl w.heap.size w
  by_cases n0 : a0 < 0
  · go_enter Try.func6, Try.ntmps6
    go_wp2_with fail
    go_ret
    exact ⟨rfl, hb0⟩
  by_cases n1 : a1 < 0
  · go_enter Try.func6, Try.ntmps6
    go_wp2_with fail
    go_ret
    exact ⟨rfl, hb0⟩
  have f4 : fullB a0 a1 true = true := fullB_yes (.inr (.inr rfl))
  have f7 : fullB 255 16777215 false = false := fullB_no (by omega) (by omega)
  have f8 : fullB 256 0 false = true := fullB_yes (.inl (by omega))
  have f9 : fullB 0 16777216 false = true := fullB_yes (.inr (.inl (by omega)))
  by_cases c0 : 256 ≤ a0
  · have f1 : fullB a0 a1 false = true := fullB_yes (.inl c0)
    have f2 : fullB a0 0 false = true := fullB_yes (.inl c0)
    have f5 : fullB (a0 + 1) 0 false = true := fullB_yes (.inl (by omega))
    by_cases c1 : 16777216 ≤ a1
    · have f3 : fullB 0 a1 false = true := fullB_yes (.inr (.inl c1))
      have f6 : fullB 0 (a1 + 1) false = true := fullB_yes (.inr (.inl (by omega)))
      by_cases d0 : a0 < 1073741824
      all_goals by_cases d1 : a1 < 1073741824
      all_goals
        go_enter Try.func6, Try.ntmps6
        go_wp2_with (go_at_call 16; refine (full_from w _ _ _ _ (by assumption)).mono ?_; rintro e w' ⟨rfl, hb⟩)
        all_goals (go_ret; exact ⟨rfl, by assumption⟩)
    · have f3 : fullB 0 a1 false = false := fullB_no (by omega) (by omega)
      by_cases d0 : a0 < 1073741824
      all_goals by_cases d1 : a1 < 1073741824
      all_goals
        go_enter Try.func6, Try.ntmps6
        go_wp2_with (go_at_call 16; refine (full_from w _ _ _ _ (by assumption)).mono ?_; rintro e w' ⟨rfl, hb⟩)
        all_goals (go_ret; exact ⟨rfl, by assumption⟩)
  · have f2 : fullB a0 0 false = false := fullB_no (by omega) (by omega)
    by_cases c1 : 16777216 ≤ a1
    · have f1 : fullB a0 a1 false = true := fullB_yes (.inr (.inl c1))
      have f3 : fullB 0 a1 false = true := fullB_yes (.inr (.inl c1))
      have f6 : fullB 0 (a1 + 1) false = true := fullB_yes (.inr (.inl (by omega)))
      by_cases d0 : a0 < 1073741824
      all_goals by_cases d1 : a1 < 1073741824
      all_goals
        go_enter Try.func6, Try.ntmps6
        go_wp2_with (go_at_call 16; refine (full_from w _ _ _ _ (by assumption)).mono ?_; rintro e w' ⟨rfl, hb⟩)
        all_goals (go_ret; exact ⟨rfl, by assumption⟩)
    · have f1 : fullB a0 a1 false = false := fullB_no (by omega) (by omega)
      have f3 : fullB 0 a1 false = false := fullB_no (by omega) (by omega)
      by_cases d0 : a0 < 1073741824
      all_goals by_cases d1 : a1 < 1073741824
      all_goals
        go_enter Try.func6, Try.ntmps6
        go_wp2_with (go_at_call 16; refine (full_from w _ _ _ _ (by assumption)).mono ?_; rintro e w' ⟨rfl, hb⟩)
        all_goals (go_ret; exact ⟨rfl, by assumption⟩)

/-! ### THE ROW's STEP: WRITTEN OUT: LEAVE IT -/
set_option maxRecDepth 100000 in
theorem lifted (os : Os) (started : os.Started) (H : Type) (enc : TypeId × Value → H) :
    ReturnsInHanded {} Try.checked os 6 .any (Rows.fnIntakeFullSeparatesLimitsSpec.pre6 enc Try.prog Try.f6 Rows.fnIntakeFullSeparatesLimitsRow.domain false) (Rows.fnIntakeFullSeparatesLimitsSpec.post enc Try.prog Try.f6 false true false false) := by
  refine returnsInHanded_of_change (C := Try.checked) own started (by kernel_rfl) Try.func6
    (ChangeSpec.witness6 (enc := enc) (C := Try.checked) false ⟨#[], #[.int .i64 0, .int .i64 0], []⟩ 8 (by kernel_rfl) (by kernel_rfl) (by kernel_rfl) (by kernel_rfl)) ?_
  intro W base args ds gs before hval0 hW hcnd _
  have hval : ∀ (j : Nat) t v, Try.f6.params[j]? = some t → args[j]? = some v → Value.okWide Try.prog W .any base t v := hval0
  have hW' := hW
  obtain ⟨p, q, hA0, hV, rfl, hfz, hnd⟩ := hW
  have hA : DataW.TrodAll enc Try.prog W 0 (fun _ => true) true Try.f6.params.toList args.toList ds p := hA0
  rw [Try.params6] at hA hval
  obtain ⟨v0, vs0, d0, ds0, p0, q0, hargs, rfl, rfl, h0, r0⟩ := trodAll_cons hA
  obtain ⟨v1, vs1, d1, ds1, p1, q1, rfl, rfl, rfl, h1, r1⟩ := trodAll_cons r0
  obtain ⟨rfl, rfl, rfl⟩ := trodAll_nil r1
  obtain rfl : args = #[v0, v1] := by cases args; simp_all
  obtain ⟨rfl, rfl⟩ := trodVars_none hV
  obtain ⟨a0, rfl, rfl, rfl, w0⟩ := open_int Try.underlying3 (hval 0 3 v0 rfl rfl) h0
  obtain ⟨a1, rfl, rfl, rfl, w1⟩ := open_int Try.underlying3 (hval 1 3 v1 rfl rfl) h1
  clear hA0 hval0
  simp only [List.append_nil] at hW'
  refine (walk a0 a1 w0 w1 W).mono fun e W' ⟨he, bel⟩ => ?_
  subst he
  exact ⟨_, rfl, _, _, _, [], _, [], hW', trodAll_mk1 (shut_bool Try.underlying4 _), (trodAll_cons_mk (shut_int Try.underlying3 w0) (trodAll_cons_mk (shut_int Try.underlying3 w1) trodAll_mk0)), rfl, bel.frame _, fun h => by cases h⟩

theorem over : Rows.fnIntakeFullSeparatesLimitsRow.holds Try.pinned (OpenSpec.ofChange Rows.fnIntakeFullSeparatesLimitsSpec) :=
  OpenClaim.holds_of_wide 6 Try.f6 rfl rfl rfl rfl rfl rfl rfl ⟨rfl, rfl, rfl, rfl, rfl⟩ rfl rfl rfl rfl rfl (by kernel_rfl) Try.func6 (by kernel_rfl)
    (of_decide_eq_true (by kernel_rfl)) (by unfold Func.isWrapper; first | (rw [if_pos (by decide +kernel)]; kernel_rfl) | (rw [if_neg (by decide +kernel)]; exact ⟨rfl, rfl⟩))
    (fun os started H enc _ => lifted os started H enc)

/-- ████ THE STATEMENT ████ -/
theorem proved : Rows.FnIntakeFullSeparatesLimitsSaid :=
  over
#print axioms proved
end Go.Proofs.Qxb6604373a.fnIntakeFullSeparatesLimits
