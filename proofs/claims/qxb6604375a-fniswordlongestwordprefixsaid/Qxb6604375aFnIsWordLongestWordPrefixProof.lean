/-
  THE PROOF OF 'Rows.FnIsWordLongestWordPrefixSaid'. The frame ('lifted', 'over', 'proved') is the given shell's, at 'Below' in the place of 'Grown'; the walk takes every callee by its contract.
-/
import Derived.Test.Qxb6604375aRows
import Derived.WalkKit
import Derived.ProofKit
import Derived.OpenShut
import Derived.ShutString
import Derived.Test.Qxb6604375aWalks
import Derived.Lib.Split
namespace Go.Proofs.Qxb6604375a.fnIsWordLongestWordPrefix
open Go.ChangeShapes Go.WideShapes Go.ChangeAt Go.RowKit
open Go.ChangeMaps (open_string shut_string)
set_option linter.unusedVariables false      -- a walk need not use every 'w<i>' (that an integer argument fits its kind)

theorem own : ownKnob Try.prog.godebug = none := by kernel_rfl

/-! ### STEP 1: THE WALK -/
theorem zzIsWord_val (s : ByteArray) (e : Int) (b : Bool) (hb : wordB e s.data.toList = b) (w : World) (hs : s.size ≤ 1048576) :
    Calls Try.prog 6 #[.string s, .int .u8 e] w fun r w' => r = .returned (.bool b) ∧ w' = w := by
  subst hb
  exact zzIsWord_any s e w hs

theorem word_upto {e : Int} {s : ByteArray} {k : Nat} (hk : k ≤ s.size) (h : okL e (s.data.toList.take k) = true) : wordB e (s.extract 0 k).data.toList = decide (0 < k) := by
  rw [Lib.extract_from_zero, wordB_ok h]
  have hl : s.data.toList.length = s.size := by simp
  cases k with
  | zero => simp
  | succ k =>
    cases hd : s.data.toList with
    | nil => rw [hd] at hl; simp at hl; omega
    | cons a r => simp

theorem size_upto (s : ByteArray) (k : Nat) (hk : k ≤ s.size) : (s.extract 0 k).size = k := by simp; omega

set_option maxHeartbeats 1600000 in
theorem walk (a0 : ByteArray) (a1 : Int) (w0 : a0.size ≤ maxLen) (w1 : (Lit.int .u8 a1).wf = true) (w : World) :
    Calls Try.prog 4 #[.string a0, .int .u8 a1] w fun e w' => e = .returned (.bool true) ∧ Below w.heap.size w w' := by
  clear w0 w1
  by_cases hs : 1048576 < a0.size
  · go_enter Try.func4, Try.ntmps4
    go_wp2_with (go_at_call 8; refine (bytes8_no _ _ _ hs).mono ?_; rintro e w' ⟨rfl, hw⟩; subst w')
    go_ret
    exact ⟨rfl, Below.refl _ _⟩
  have hs' : a0.size ≤ 1048576 := by omega
  have d1 : decide ((1048576 : Int) < (a0.size : Int)) = false := decide_eq_false (by omega)
  have HLL : Hid (a0.data.toList.length = a0.size) := by show a0.data.toList.length = a0.size; simp
  clear hs
  go_enter Try.func4, Try.ntmps4
  go_wp2_with (go_at_call 8; refine (bytes8_yes _ _ _ hs').mono ?_; rintro e w' ⟨rfl, hw⟩; subst w')
  go_loop [5] (fun v => ∃ k : Nat, k ≤ a0.size ∧ v = .int .i64 k ∧ okL a1 (a0.data.toList.take k) = true) (fun v => a0.size - (intOf v).toNat)
  case atStart => exact ⟨0, Nat.zero_le _, rfl, rfl⟩
  case round =>
    obtain ⟨k, hk, rfl, hok⟩ := hrel
    have HOK : Hid (okL a1 (a0.data.toList.take k) = true) := hok
    have HP : Hid (wordB a1 (a0.extract 0 k).data.toList = decide (0 < k)) := word_upto hk hok
    have HS : Hid ((a0.extract 0 k).size ≤ 1048576) := by show (a0.extract 0 k).size ≤ 1048576; rw [size_upto a0 k hk]; omega
    clear hok
    by_cases hlt : k < a0.size
    · have HT : Hid (okL a1 (a0.data.toList.take (k + 1)) = (okL a1 (a0.data.toList.take k) && inC a1 a0[k].toNat)) := okL_take a1 a0.data.toList k (by rw [HLL.out]; exact hlt)
      have hb1 : (0 : Int) ≤ (a0[k].toNat : Int) := by omega
      have hb2 : (a0[k].toNat : Int) ≤ 255 := by have := a0[k].toNat_lt; omega
      go_wp2_with fail
      refine (inClass_any _ a1 w hb1 hb2).mono ?_
      rintro r w' ⟨rfl, hw⟩
      subst w'
      by_cases hI : inC a1 a0[k].toNat = true
      · rw [hI]
        have HT2 : Hid (okL a1 (a0.data.toList.take (k + 1)) = true) := by show _ = _; rw [HT.out, HOK.out, hI]; rfl
        clear hI HT HOK
        go_wp2
        go_round
        case rel => exact ⟨k + 1, by omega, by go_num, HT2.out⟩
        case measure => simp [intOf]; omega
      · have hI2 : inC a1 a0[k].toNat = false := by simpa using hI
        rw [hI2]
        have HWl : Hid (wordB a1 a0.data.toList = false) := wordB_bad (okL_bad a1 a0.data.toList k (by rw [HLL.out]; exact hlt) hI2)
        have HWn : Hid (wordB a1 (a0.extract 0 (k + 1)).data.toList = false) := by show _ = _; rw [Lib.extract_from_zero]; exact wordB_bad (by rw [HT.out, hI2]; simp)
        have HSn : Hid ((a0.extract 0 (k + 1)).size ≤ 1048576) := by show (a0.extract 0 (k + 1)).size ≤ 1048576; rw [size_upto a0 (k + 1) (by omega)]; omega
        clear hI hI2 HT
        have hne : ((k : Int) == (a0.size : Int)) = false := beq_eq_false_iff_ne.2 (by omega)
        by_cases hk0 : 0 < k
        · have HP2 : Hid (wordB a1 (a0.extract 0 k).data.toList = true) := HP.out.trans (decide_eq_true hk0)
          go_wp2_with fail
          refine (zzIsWord_val a0 a1 false HWl.out w hs').mono ?_
          rintro r w' ⟨rfl, hw⟩
          subst w'
          go_wp2_with fail
          refine (zzIsWord_val (a0.extract 0 k) a1 true HP2.out w HS.out).mono ?_
          rintro r w' ⟨rfl, hw⟩
          subst w'
          go_wp2_with fail
          refine (zzIsWord_val (a0.extract 0 (k + 1)) a1 false HWn.out w HSn.out).mono ?_
          rintro r w' ⟨rfl, hw⟩
          subst w'
          go_wp2
          go_ret
          exact ⟨rfl, Below.refl _ _⟩
        · obtain rfl : k = 0 := by omega
          go_wp2_with fail
          refine (zzIsWord_val a0 a1 false HWl.out w hs').mono ?_
          rintro r w' ⟨rfl, hw⟩
          subst w'
          go_wp2_with fail
          refine (zzIsWord_val ByteArray.empty a1 false rfl w (by decide)).mono ?_
          rintro r w' ⟨rfl, hw⟩
          subst w'
          go_wp2_with fail
          refine (zzIsWord_val (a0.extract 0 1) a1 false HWn.out w HSn.out).mono ?_
          rintro r w' ⟨rfl, hw⟩
          subst w'
          go_wp2
          go_ret
          exact ⟨rfl, Below.refl _ _⟩
    · have hge : a0.size ≤ k := by omega
      have HWl : Hid (wordB a1 a0.data.toList = decide (0 < k)) := by
        have h := HP.out
        rw [Lib.extract_from_zero, List.take_of_length_le (by rw [HLL.out]; omega)] at h
        exact h
      have hne : ((k : Int) == (a0.size : Int)) = true := beq_iff_eq.2 (by omega)
      by_cases hk0 : 0 < k
      · have HP2 : Hid (wordB a1 (a0.extract 0 k).data.toList = true) := HP.out.trans (decide_eq_true hk0)
        have HWl2 : Hid (wordB a1 a0.data.toList = true) := HWl.out.trans (decide_eq_true hk0)
        go_wp2_with fail
        refine (zzIsWord_val a0 a1 true HWl2.out w hs').mono ?_
        rintro r w' ⟨rfl, hw⟩
        subst w'
        go_wp2_with fail
        refine (zzIsWord_val (a0.extract 0 k) a1 true HP2.out w HS.out).mono ?_
        rintro r w' ⟨rfl, hw⟩
        subst w'
        go_wp2
        go_ret
        exact ⟨rfl, Below.refl _ _⟩
      · obtain rfl : k = 0 := by omega
        have HWl2 : Hid (wordB a1 a0.data.toList = false) := HWl.out.trans (decide_eq_false hk0)
        go_wp2_with fail
        refine (zzIsWord_val a0 a1 false HWl2.out w hs').mono ?_
        rintro r w' ⟨rfl, hw⟩
        subst w'
        go_wp2_with fail
        refine (zzIsWord_val a0 a1 false HWl2.out w hs').mono ?_
        rintro r w' ⟨rfl, hw⟩
        subst w'
        go_wp2
        go_ret
        exact ⟨rfl, Below.refl _ _⟩

/-! ### THE ROW's STEP: WRITTEN OUT: LEAVE IT -/
set_option maxRecDepth 100000 in
theorem lifted (os : Os) (started : os.Started) (H : Type) (enc : TypeId × Value → H) :
    ReturnsInHanded {} Try.checked os 4 .any (Rows.fnIsWordLongestWordPrefixSpec.pre6 enc Try.prog Try.f4 Rows.fnIsWordLongestWordPrefixRow.domain false) (Rows.fnIsWordLongestWordPrefixSpec.post enc Try.prog Try.f4 false true false false) := by
  refine returnsInHanded_of_change (C := Try.checked) own started (by kernel_rfl) Try.func4
    (ChangeSpec.witness6 (enc := enc) (C := Try.checked) false ⟨#[], #[.string ByteArray.empty, .int .u8 0], []⟩ 8 (by kernel_rfl) (by kernel_rfl) (by kernel_rfl) (by kernel_rfl)) ?_
  intro W base args ds gs before hval0 hW hcnd _
  have hval : ∀ (j : Nat) t v, Try.f4.params[j]? = some t → args[j]? = some v → Value.okWide Try.prog W .any base t v := hval0
  have hW' := hW
  obtain ⟨p, q, hA0, hV, rfl, hfz, hnd⟩ := hW
  have hA : DataW.TrodAll enc Try.prog W 0 (fun _ => true) true Try.f4.params.toList args.toList ds p := hA0
  rw [Try.params4] at hA hval
  obtain ⟨v0, vs0, d0, ds0, p0, q0, hargs, rfl, rfl, h0, r0⟩ := trodAll_cons hA
  obtain ⟨v1, vs1, d1, ds1, p1, q1, rfl, rfl, rfl, h1, r1⟩ := trodAll_cons r0
  obtain ⟨rfl, rfl, rfl⟩ := trodAll_nil r1
  obtain rfl : args = #[v0, v1] := by cases args; simp_all
  obtain ⟨rfl, rfl⟩ := trodVars_none hV
  obtain ⟨a0, rfl, rfl, rfl, w0⟩ := open_string Try.underlying9 (hval 0 9 v0 rfl rfl) h0
  obtain ⟨a1, rfl, rfl, rfl, w1⟩ := open_int Try.underlying5 (hval 1 5 v1 rfl rfl) h1
  clear hA0 hval0
  simp only [List.append_nil] at hW'
  refine (walk a0 a1 w0 w1 W).mono fun e W' ⟨he, bel⟩ => ?_
  subst he
  exact ⟨_, rfl, _, _, _, [], _, [], hW', trodAll_mk1 (shut_bool Try.underlying4 _), (trodAll_cons_mk (shut_string Try.underlying9 w0) (trodAll_cons_mk (shut_int Try.underlying5 w1) trodAll_mk0)), rfl, bel.frame _, fun h => by cases h⟩

theorem over : Rows.fnIsWordLongestWordPrefixRow.holds Try.pinned (OpenSpec.ofChange Rows.fnIsWordLongestWordPrefixSpec) :=
  OpenClaim.holds_of_wide 4 Try.f4 rfl rfl rfl rfl rfl rfl rfl ⟨rfl, rfl, rfl, rfl, rfl⟩ rfl rfl rfl rfl rfl (by kernel_rfl) Try.func4 (by kernel_rfl)
    (of_decide_eq_true (by kernel_rfl)) (by unfold Func.isWrapper; first | (rw [if_pos (by decide +kernel)]; kernel_rfl) | (rw [if_neg (by decide +kernel)]; exact ⟨rfl, rfl⟩))
    (fun os started H enc _ => lifted os started H enc)

/-- ████ THE STATEMENT ████ -/
theorem proved : Rows.FnIsWordLongestWordPrefixSaid :=
  over
#print axioms proved
end Go.Proofs.Qxb6604375a.fnIsWordLongestWordPrefix
