/-
  THE PROOF OF 'Rows.FnIntakeAdmitsClosedFormSaid'. The frame ('lifted', 'over', 'proved') is the given shell's, at 'Below' in the place of 'Grown'; the walk takes ZZIntakeFull by its contract.
-/
import Derived.Test.Qxb6604373aRows
import Derived.WalkKit
import Derived.ProofKit
import Derived.OpenShut
import Derived.ShutString
import Derived.Test.Qxb6604373aIntake
namespace Go.Proofs.Qxb6604373a.fnIntakeAdmitsClosedForm
open Go.ChangeShapes Go.WideShapes Go.ChangeAt Go.RowKit
open Go.ChangeMaps (open_string shut_string)
set_option linter.unusedVariables false      -- a walk need not use every 'w<i>' (that an integer argument fits its kind)

theorem own : ownKnob Try.prog.godebug = none := by kernel_rfl

/-! ### STEP 1: THE WALK -/
/-- The ceiling of a quotient: the plain law. -/
theorem ceil_le (b0 sz i : Int) (hs : 0 < sz) : (16777216 - b0 + sz - 1) / sz ≤ i ↔ 16777216 ≤ b0 + i * sz := by
  have e := Int.mul_ediv_add_emod (16777216 - b0 + sz - 1) sz
  have r0 := Int.emod_nonneg (16777216 - b0 + sz - 1) (by omega : sz ≠ 0)
  have r1 := Int.emod_lt_of_pos (16777216 - b0 + sz - 1) hs
  generalize (16777216 - b0 + sz - 1) / sz = q at *
  generalize (16777216 - b0 + sz - 1) % sz = r at *
  constructor
  · intro h
    have h2 : sz * q ≤ sz * i := Int.mul_le_mul_of_nonneg_left h (by omega)
    have h3 : sz * i = i * sz := Int.mul_comm _ _
    omega
  · intro h
    apply Int.le_of_not_gt
    intro hc
    have h2 : sz * (i + 1) ≤ sz * q := Int.mul_le_mul_of_nonneg_left (by omega) (by omega)
    have h3 : sz * (i + 1) = i * sz + sz := by rw [Int.mul_add, Int.mul_one, Int.mul_comm]
    omega

/-- The intake is full at step i just where K ≤ i. -/
def Says (p0 b0 sz : Int) (s : Bool) (K : Int) : Prop := ∀ i : Int, 0 ≤ i → fullB (p0 + i) (b0 + i * sz) s = decide (K ≤ i)

theorem says_of (p0 b0 sz K : Int) (h : ∀ i : Int, 0 ≤ i → ((256 ≤ p0 + i ∨ 16777216 ≤ b0 + i * sz) ↔ K ≤ i)) : Says p0 b0 sz false K := by
  intro i hi
  have := h i hi
  by_cases hk : K ≤ i
  · rw [fullB_yes (by rcases this.2 hk with h | h; exact .inl h; exact .inr (.inl h))]; simp [hk]
  · rw [fullB_no (by omega) (by omega)]; simp [hk]

theorem says_stopped (p0 b0 sz : Int) : Says p0 b0 sz true 0 := by
  intro i hi
  rw [fullB_yes (.inr (.inr rfl))]; simp [hi]

theorem mul_bd (k : Nat) (sz : Int) (hk : k ≤ 256) (h0 : 0 ≤ sz) (h1 : sz ≤ 1048576) : 0 ≤ (k : Int) * sz ∧ (k : Int) * sz ≤ 268435456 := by
  constructor
  · exact Int.mul_nonneg (by omega) h0
  · have := Int.mul_le_mul (show (k : Int) ≤ 256 by omega) h1 h0 (by omega)
    omega

theorem mul_base (b0 sz i : Int) (h : 16777216 ≤ b0) (h0 : 0 ≤ sz) (hi : 0 ≤ i) : 16777216 ≤ b0 + i * sz := by
  have := Int.mul_nonneg hi h0
  omega
set_option maxHeartbeats 1600000 in
theorem walk_stop (a0 a1 a2 : Int) (p0 : 0 ≤ a0) (p1 : a0 ≤ 1073741824) (b0 : 0 ≤ a1) (b1 : a1 ≤ 1073741824) (s0 : 0 ≤ a2) (s1 : a2 ≤ 1048576)  (w : World) :
    Calls Try.prog 5 #[.int .i64 a0, .int .i64 a1, .int .i64 a2, .bool true] w fun e w' => e = .returned (.bool true) ∧ Below w.heap.size w w' := by
  have HG : Hid (Says a0 a1 a2 true (0)) := says_stopped a0 a1 a2
  have d1 : decide (a0 < 0) = false := decide_eq_false (by omega)
  have d2 : decide (1073741824 < a0) = false := decide_eq_false (by omega)
  have d3 : decide (a1 < 0) = false := decide_eq_false (by omega)
  have d4 : decide (1073741824 < a1) = false := decide_eq_false (by omega)
  have d5 : decide (a2 < 0) = false := decide_eq_false (by omega)
  have d6 : decide (1048576 < a2) = false := decide_eq_false (by omega)
  go_enter Try.func5, Try.ntmps5
  go_wp2_with fail
  go_loopw [13] (fun v wr => ∃ k : Nat, k ≤ 257 ∧ v = .int .i64 k ∧ Below w.heap.size w wr) (fun v _ => 257 - (intOf v).toNat)
  case atStart => exact ⟨0, by omega, rfl, Below.refl _ _⟩
  case round =>
    obtain ⟨k, hk, rfl, hb⟩ := hrel
    by_cases hlt : k ≤ 256
    · have hm := mul_bd k a2 hlt s0 s1
      have hlt' : (k : Int) ≤ 256 := by omega
      have hF := HG.out k (by omega)
      have hK : (0 : Int) ≤ (k : Int) := by omega
      have hF2 : fullB (a0 + (k : Int)) (a1 + (k : Int) * a2) true = true := by rw [hF]; simp [hK]
      clear hF
      go_wp2_with (go_at_call 16; refine (full_from w _ _ _ _ (by assumption)).mono ?_; rintro e w' ⟨rfl, hb⟩)
      go_roundw
      case rel => exact ⟨k + 1, by omega, by go_num, by assumption⟩
      case measure => simp [intOf]; omega
    · go_wp2_with fail
      go_ret
      exact ⟨rfl, hb⟩

set_option maxHeartbeats 1600000 in
theorem walk_a1 (a0 a1 a2 : Int) (p0 : 0 ≤ a0) (p1 : a0 ≤ 1073741824) (b0 : 0 ≤ a1) (b1 : a1 ≤ 1073741824) (s0 : 0 ≤ a2) (s1 : a2 ≤ 1048576) (h1 : 256 < a0) (h2 : 16777216 ≤ a1) (w : World) :
    Calls Try.prog 5 #[.int .i64 a0, .int .i64 a1, .int .i64 a2, .bool false] w fun e w' => e = .returned (.bool true) ∧ Below w.heap.size w w' := by
  have HG : Hid (Says a0 a1 a2 false (0)) := says_of _ _ _ _ (fun i hi => ⟨fun _ => hi, fun _ => .inl (by omega)⟩)
  have d1 : decide (a0 < 0) = false := decide_eq_false (by omega)
  have d2 : decide (1073741824 < a0) = false := decide_eq_false (by omega)
  have d3 : decide (a1 < 0) = false := decide_eq_false (by omega)
  have d4 : decide (1073741824 < a1) = false := decide_eq_false (by omega)
  have d5 : decide (a2 < 0) = false := decide_eq_false (by omega)
  have d6 : decide (1048576 < a2) = false := decide_eq_false (by omega)
  have d7 : decide (256 - a0 < 0) = true := decide_eq_true (by omega)
  have d8 : decide (a1 < 16777216) = false := decide_eq_false (by omega)
  go_enter Try.func5, Try.ntmps5
  go_wp2_with fail
  go_loopw [13] (fun v wr => ∃ k : Nat, k ≤ 257 ∧ v = .int .i64 k ∧ Below w.heap.size w wr) (fun v _ => 257 - (intOf v).toNat)
  case atStart => exact ⟨0, by omega, rfl, Below.refl _ _⟩
  case round =>
    obtain ⟨k, hk, rfl, hb⟩ := hrel
    by_cases hlt : k ≤ 256
    · have hm := mul_bd k a2 hlt s0 s1
      have hlt' : (k : Int) ≤ 256 := by omega
      have hF := HG.out k (by omega)
      have hK : (0 : Int) ≤ (k : Int) := by omega
      have hF2 : fullB (a0 + (k : Int)) (a1 + (k : Int) * a2) false = true := by rw [hF]; simp [hK]
      clear hF
      go_wp2_with (go_at_call 16; refine (full_from w _ _ _ _ (by assumption)).mono ?_; rintro e w' ⟨rfl, hb⟩)
      go_roundw
      case rel => exact ⟨k + 1, by omega, by go_num, by assumption⟩
      case measure => simp [intOf]; omega
    · go_wp2_with fail
      go_ret
      exact ⟨rfl, hb⟩

set_option maxHeartbeats 1600000 in
theorem walk_a2 (a0 a1 a2 : Int) (p0 : 0 ≤ a0) (p1 : a0 ≤ 1073741824) (b0 : 0 ≤ a1) (b1 : a1 ≤ 1073741824) (s0 : 0 ≤ a2) (s1 : a2 ≤ 1048576) (h1 : 256 < a0) (h2 : a1 < 16777216) (h3 : a2 = 0) (w : World) :
    Calls Try.prog 5 #[.int .i64 a0, .int .i64 a1, .int .i64 a2, .bool false] w fun e w' => e = .returned (.bool true) ∧ Below w.heap.size w w' := by
  have HG : Hid (Says a0 a1 a2 false (0)) := says_of _ _ _ _ (fun i hi => ⟨fun _ => hi, fun _ => .inl (by omega)⟩)
  have d1 : decide (a0 < 0) = false := decide_eq_false (by omega)
  have d2 : decide (1073741824 < a0) = false := decide_eq_false (by omega)
  have d3 : decide (a1 < 0) = false := decide_eq_false (by omega)
  have d4 : decide (1073741824 < a1) = false := decide_eq_false (by omega)
  have d5 : decide (a2 < 0) = false := decide_eq_false (by omega)
  have d6 : decide (1048576 < a2) = false := decide_eq_false (by omega)
  have d7 : decide (256 - a0 < 0) = true := decide_eq_true (by omega)
  have d8 : decide (a1 < 16777216) = true := decide_eq_true (by omega)
  have d9 : (a2 == 0) = true := beq_iff_eq.2 h3
  have H3 : Hid (a2 = 0) := h3
  clear h3
  go_enter Try.func5, Try.ntmps5
  go_wp2_with fail
  go_loopw [13] (fun v wr => ∃ k : Nat, k ≤ 257 ∧ v = .int .i64 k ∧ Below w.heap.size w wr) (fun v _ => 257 - (intOf v).toNat)
  case atStart => exact ⟨0, by omega, rfl, Below.refl _ _⟩
  case round =>
    obtain ⟨k, hk, rfl, hb⟩ := hrel
    by_cases hlt : k ≤ 256
    · have hm := mul_bd k a2 hlt s0 s1
      have hlt' : (k : Int) ≤ 256 := by omega
      have hF := HG.out k (by omega)
      have hK : (0 : Int) ≤ (k : Int) := by omega
      have hF2 : fullB (a0 + (k : Int)) (a1 + (k : Int) * a2) false = true := by rw [hF]; simp [hK]
      clear hF
      go_wp2_with (go_at_call 16; refine (full_from w _ _ _ _ (by assumption)).mono ?_; rintro e w' ⟨rfl, hb⟩)
      go_roundw
      case rel => exact ⟨k + 1, by omega, by go_num, by assumption⟩
      case measure => simp [intOf]; omega
    · go_wp2_with fail
      go_ret
      exact ⟨rfl, hb⟩

set_option maxHeartbeats 1600000 in
theorem walk_a3 (a0 a1 a2 : Int) (p0 : 0 ≤ a0) (p1 : a0 ≤ 1073741824) (b0 : 0 ≤ a1) (b1 : a1 ≤ 1073741824) (s0 : 0 ≤ a2) (s1 : a2 ≤ 1048576) (h1 : 256 < a0) (h2 : a1 < 16777216) (h3 : 0 < a2) (w : World) :
    Calls Try.prog 5 #[.int .i64 a0, .int .i64 a1, .int .i64 a2, .bool false] w fun e w' => e = .returned (.bool true) ∧ Below w.heap.size w w' := by
  have HG : Hid (Says a0 a1 a2 false (0)) := says_of _ _ _ _ (fun i hi => ⟨fun _ => hi, fun _ => .inl (by omega)⟩)
  have d1 : decide (a0 < 0) = false := decide_eq_false (by omega)
  have d2 : decide (1073741824 < a0) = false := decide_eq_false (by omega)
  have d3 : decide (a1 < 0) = false := decide_eq_false (by omega)
  have d4 : decide (1073741824 < a1) = false := decide_eq_false (by omega)
  have d5 : decide (a2 < 0) = false := decide_eq_false (by omega)
  have d6 : decide (1048576 < a2) = false := decide_eq_false (by omega)
  have hz : (a2 == 0) = false := by simp; omega
  have hq0 : 0 ≤ (16777216 - a1 + a2 - 1) / a2 := Int.ediv_nonneg (by omega) (by omega)
  have hq1 : (16777216 - a1 + a2 - 1) / a2 ≤ 16777216 := (ceil_le a1 a2 16777216 h3).2 (by have := Int.mul_le_mul_of_nonneg_left (show (1 : Int) ≤ a2 by omega) (show (0 : Int) ≤ 16777216 by omega); omega)
  have d7 : decide (256 - a0 < 0) = true := decide_eq_true (by omega)
  have d8 : decide (a1 < 16777216) = true := decide_eq_true (by omega)
  have d10 : decide ((16777216 - a1 + a2 - 1) / a2 < 0) = false := decide_eq_false (by omega)
  go_enter Try.func5, Try.ntmps5
  go_wp2_with fail
  go_loopw [13] (fun v wr => ∃ k : Nat, k ≤ 257 ∧ v = .int .i64 k ∧ Below w.heap.size w wr) (fun v _ => 257 - (intOf v).toNat)
  case atStart => exact ⟨0, by omega, rfl, Below.refl _ _⟩
  case round =>
    obtain ⟨k, hk, rfl, hb⟩ := hrel
    by_cases hlt : k ≤ 256
    · have hm := mul_bd k a2 hlt s0 s1
      have hlt' : (k : Int) ≤ 256 := by omega
      have hF := HG.out k (by omega)
      have hK : (0 : Int) ≤ (k : Int) := by omega
      have hF2 : fullB (a0 + (k : Int)) (a1 + (k : Int) * a2) false = true := by rw [hF]; simp [hK]
      clear hF
      go_wp2_with (go_at_call 16; refine (full_from w _ _ _ _ (by assumption)).mono ?_; rintro e w' ⟨rfl, hb⟩)
      go_roundw
      case rel => exact ⟨k + 1, by omega, by go_num, by assumption⟩
      case measure => simp [intOf]; omega
    · go_wp2_with fail
      go_ret
      exact ⟨rfl, hb⟩

set_option maxHeartbeats 1600000 in
theorem walk_b1 (a0 a1 a2 : Int) (p0 : 0 ≤ a0) (p1 : a0 ≤ 1073741824) (b0 : 0 ≤ a1) (b1 : a1 ≤ 1073741824) (s0 : 0 ≤ a2) (s1 : a2 ≤ 1048576) (h1 : a0 < 256) (h2 : 16777216 ≤ a1) (w : World) :
    Calls Try.prog 5 #[.int .i64 a0, .int .i64 a1, .int .i64 a2, .bool false] w fun e w' => e = .returned (.bool true) ∧ Below w.heap.size w w' := by
  have HG : Hid (Says a0 a1 a2 false (0)) := says_of _ _ _ _ (fun i hi => ⟨fun _ => hi, fun _ => .inr (mul_base _ _ _ h2 s0 hi)⟩)
  have d1 : decide (a0 < 0) = false := decide_eq_false (by omega)
  have d2 : decide (1073741824 < a0) = false := decide_eq_false (by omega)
  have d3 : decide (a1 < 0) = false := decide_eq_false (by omega)
  have d4 : decide (1073741824 < a1) = false := decide_eq_false (by omega)
  have d5 : decide (a2 < 0) = false := decide_eq_false (by omega)
  have d6 : decide (1048576 < a2) = false := decide_eq_false (by omega)
  have d7 : decide (256 - a0 < 0) = false := decide_eq_false (by omega)
  have d8 : decide (a1 < 16777216) = false := decide_eq_false (by omega)
  have d11 : decide (a0 < 256) = true := decide_eq_true (by omega)
  go_enter Try.func5, Try.ntmps5
  go_wp2_with fail
  go_loopw [13] (fun v wr => ∃ k : Nat, k ≤ 257 ∧ v = .int .i64 k ∧ Below w.heap.size w wr) (fun v _ => 257 - (intOf v).toNat)
  case atStart => exact ⟨0, by omega, rfl, Below.refl _ _⟩
  case round =>
    obtain ⟨k, hk, rfl, hb⟩ := hrel
    by_cases hlt : k ≤ 256
    · have hm := mul_bd k a2 hlt s0 s1
      have hlt' : (k : Int) ≤ 256 := by omega
      have hF := HG.out k (by omega)
      have hK : (0 : Int) ≤ (k : Int) := by omega
      have hF2 : fullB (a0 + (k : Int)) (a1 + (k : Int) * a2) false = true := by rw [hF]; simp [hK]
      clear hF
      go_wp2_with (go_at_call 16; refine (full_from w _ _ _ _ (by assumption)).mono ?_; rintro e w' ⟨rfl, hb⟩)
      go_roundw
      case rel => exact ⟨k + 1, by omega, by go_num, by assumption⟩
      case measure => simp [intOf]; omega
    · go_wp2_with fail
      go_ret
      exact ⟨rfl, hb⟩

set_option maxHeartbeats 1600000 in
theorem walk_b1e (a0 a1 a2 : Int) (p0 : 0 ≤ a0) (p1 : a0 ≤ 1073741824) (b0 : 0 ≤ a1) (b1 : a1 ≤ 1073741824) (s0 : 0 ≤ a2) (s1 : a2 ≤ 1048576) (h1 : a0 ≤ 256) (h1' : 256 ≤ a0) (h2 : 16777216 ≤ a1) (w : World) :
    Calls Try.prog 5 #[.int .i64 a0, .int .i64 a1, .int .i64 a2, .bool false] w fun e w' => e = .returned (.bool true) ∧ Below w.heap.size w w' := by
  have HG : Hid (Says a0 a1 a2 false (256 - a0)) := says_of _ _ _ _ (fun i hi => ⟨fun _ => by omega, fun _ => .inr (mul_base _ _ _ h2 s0 hi)⟩)
  have d1 : decide (a0 < 0) = false := decide_eq_false (by omega)
  have d2 : decide (1073741824 < a0) = false := decide_eq_false (by omega)
  have d3 : decide (a1 < 0) = false := decide_eq_false (by omega)
  have d4 : decide (1073741824 < a1) = false := decide_eq_false (by omega)
  have d5 : decide (a2 < 0) = false := decide_eq_false (by omega)
  have d6 : decide (1048576 < a2) = false := decide_eq_false (by omega)
  have d7 : decide (256 - a0 < 0) = false := decide_eq_false (by omega)
  have d8 : decide (a1 < 16777216) = false := decide_eq_false (by omega)
  have d11 : decide (a0 < 256) = false := decide_eq_false (by omega)
  go_enter Try.func5, Try.ntmps5
  go_wp2_with fail
  go_loopw [13] (fun v wr => ∃ k : Nat, k ≤ 257 ∧ v = .int .i64 k ∧ Below w.heap.size w wr) (fun v _ => 257 - (intOf v).toNat)
  case atStart => exact ⟨0, by omega, rfl, Below.refl _ _⟩
  case round =>
    obtain ⟨k, hk, rfl, hb⟩ := hrel
    by_cases hlt : k ≤ 256
    · have hm := mul_bd k a2 hlt s0 s1
      have hlt' : (k : Int) ≤ 256 := by omega
      have hF := HG.out k (by omega)
      have hK : (256 - a0 : Int) ≤ (k : Int) := by omega
      have hF2 : fullB (a0 + (k : Int)) (a1 + (k : Int) * a2) false = true := by rw [hF]; simp [hK]
      clear hF
      go_wp2_with (go_at_call 16; refine (full_from w _ _ _ _ (by assumption)).mono ?_; rintro e w' ⟨rfl, hb⟩)
      go_roundw
      case rel => exact ⟨k + 1, by omega, by go_num, by assumption⟩
      case measure => simp [intOf]; omega
    · go_wp2_with fail
      go_ret
      exact ⟨rfl, hb⟩

set_option maxHeartbeats 1600000 in
theorem walk_b2 (a0 a1 a2 : Int) (p0 : 0 ≤ a0) (p1 : a0 ≤ 1073741824) (b0 : 0 ≤ a1) (b1 : a1 ≤ 1073741824) (s0 : 0 ≤ a2) (s1 : a2 ≤ 1048576) (h1 : a0 ≤ 256) (h2 : a1 < 16777216) (h3 : a2 = 0) (w : World) :
    Calls Try.prog 5 #[.int .i64 a0, .int .i64 a1, .int .i64 a2, .bool false] w fun e w' => e = .returned (.bool true) ∧ Below w.heap.size w w' := by
  have HG : Hid (Says a0 a1 a2 false (256 - a0)) := says_of _ _ _ _ (fun i hi => by subst h3; simp only [Int.mul_zero]; omega)
  have d1 : decide (a0 < 0) = false := decide_eq_false (by omega)
  have d2 : decide (1073741824 < a0) = false := decide_eq_false (by omega)
  have d3 : decide (a1 < 0) = false := decide_eq_false (by omega)
  have d4 : decide (1073741824 < a1) = false := decide_eq_false (by omega)
  have d5 : decide (a2 < 0) = false := decide_eq_false (by omega)
  have d6 : decide (1048576 < a2) = false := decide_eq_false (by omega)
  have d7 : decide (256 - a0 < 0) = false := decide_eq_false (by omega)
  have d8 : decide (a1 < 16777216) = true := decide_eq_true (by omega)
  have d9 : (a2 == 0) = true := beq_iff_eq.2 h3
  have H3 : Hid (a2 = 0) := h3
  clear h3
  go_enter Try.func5, Try.ntmps5
  go_wp2_with fail
  go_loopw [13] (fun v wr => ∃ k : Nat, k ≤ 257 ∧ v = .int .i64 k ∧ Below w.heap.size w wr) (fun v _ => 257 - (intOf v).toNat)
  case atStart => exact ⟨0, by omega, rfl, Below.refl _ _⟩
  case round =>
    obtain ⟨k, hk, rfl, hb⟩ := hrel
    by_cases hlt : k ≤ 256
    · have hm := mul_bd k a2 hlt s0 s1
      have hlt' : (k : Int) ≤ 256 := by omega
      have hF := HG.out k (by omega)
      by_cases hK : (256 - a0 : Int) ≤ (k : Int)
      · have hF2 : fullB (a0 + (k : Int)) (a1 + (k : Int) * a2) false = true := by rw [hF]; simp [hK]
        clear hF
        go_wp2_with (go_at_call 16; refine (full_from w _ _ _ _ (by assumption)).mono ?_; rintro e w' ⟨rfl, hb⟩)
        go_roundw
        case rel => exact ⟨k + 1, by omega, by go_num, by assumption⟩
        case measure => simp [intOf]; omega
      · have hF2 : fullB (a0 + (k : Int)) (a1 + (k : Int) * a2) false = false := by rw [hF]; simp [hK]
        clear hF
        go_wp2_with (go_at_call 16; refine (full_from w _ _ _ _ (by assumption)).mono ?_; rintro e w' ⟨rfl, hb⟩)
        go_roundw
        case rel => exact ⟨k + 1, by omega, by go_num, by assumption⟩
        case measure => simp [intOf]; omega
    · go_wp2_with fail
      go_ret
      exact ⟨rfl, hb⟩

set_option maxHeartbeats 1600000 in
theorem walk_b3 (a0 a1 a2 : Int) (p0 : 0 ≤ a0) (p1 : a0 ≤ 1073741824) (b0 : 0 ≤ a1) (b1 : a1 ≤ 1073741824) (s0 : 0 ≤ a2) (s1 : a2 ≤ 1048576) (h1 : a0 ≤ 256) (h2 : a1 < 16777216) (h3 : 0 < a2) (h4 : (16777216 - a1 + a2 - 1) / a2 < 256 - a0) (w : World) :
    Calls Try.prog 5 #[.int .i64 a0, .int .i64 a1, .int .i64 a2, .bool false] w fun e w' => e = .returned (.bool true) ∧ Below w.heap.size w w' := by
  have HG : Hid (Says a0 a1 a2 false ((16777216 - a1 + a2 - 1) / a2)) := says_of _ _ _ _ (fun i hi => by have := ceil_le a1 a2 i h3; omega)
  have d1 : decide (a0 < 0) = false := decide_eq_false (by omega)
  have d2 : decide (1073741824 < a0) = false := decide_eq_false (by omega)
  have d3 : decide (a1 < 0) = false := decide_eq_false (by omega)
  have d4 : decide (1073741824 < a1) = false := decide_eq_false (by omega)
  have d5 : decide (a2 < 0) = false := decide_eq_false (by omega)
  have d6 : decide (1048576 < a2) = false := decide_eq_false (by omega)
  have hz : (a2 == 0) = false := by simp; omega
  have hq0 : 0 ≤ (16777216 - a1 + a2 - 1) / a2 := Int.ediv_nonneg (by omega) (by omega)
  have hq1 : (16777216 - a1 + a2 - 1) / a2 ≤ 16777216 := (ceil_le a1 a2 16777216 h3).2 (by have := Int.mul_le_mul_of_nonneg_left (show (1 : Int) ≤ a2 by omega) (show (0 : Int) ≤ 16777216 by omega); omega)
  have d7 : decide (256 - a0 < 0) = false := decide_eq_false (by omega)
  have d8 : decide (a1 < 16777216) = true := decide_eq_true (by omega)
  have d10 : decide ((16777216 - a1 + a2 - 1) / a2 < 256 - a0) = true := decide_eq_true (by omega)
  go_enter Try.func5, Try.ntmps5
  go_wp2_with fail
  go_loopw [13] (fun v wr => ∃ k : Nat, k ≤ 257 ∧ v = .int .i64 k ∧ Below w.heap.size w wr) (fun v _ => 257 - (intOf v).toNat)
  case atStart => exact ⟨0, by omega, rfl, Below.refl _ _⟩
  case round =>
    obtain ⟨k, hk, rfl, hb⟩ := hrel
    by_cases hlt : k ≤ 256
    · have hm := mul_bd k a2 hlt s0 s1
      have hlt' : (k : Int) ≤ 256 := by omega
      have hF := HG.out k (by omega)
      by_cases hK : ((16777216 - a1 + a2 - 1) / a2 : Int) ≤ (k : Int)
      · have hF2 : fullB (a0 + (k : Int)) (a1 + (k : Int) * a2) false = true := by rw [hF]; simp [hK]
        clear hF
        go_wp2_with (go_at_call 16; refine (full_from w _ _ _ _ (by assumption)).mono ?_; rintro e w' ⟨rfl, hb⟩)
        go_roundw
        case rel => exact ⟨k + 1, by omega, by go_num, by assumption⟩
        case measure => simp [intOf]; omega
      · have hF2 : fullB (a0 + (k : Int)) (a1 + (k : Int) * a2) false = false := by rw [hF]; simp [hK]
        clear hF
        go_wp2_with (go_at_call 16; refine (full_from w _ _ _ _ (by assumption)).mono ?_; rintro e w' ⟨rfl, hb⟩)
        go_roundw
        case rel => exact ⟨k + 1, by omega, by go_num, by assumption⟩
        case measure => simp [intOf]; omega
    · go_wp2_with fail
      go_ret
      exact ⟨rfl, hb⟩

set_option maxHeartbeats 1600000 in
theorem walk_b4 (a0 a1 a2 : Int) (p0 : 0 ≤ a0) (p1 : a0 ≤ 1073741824) (b0 : 0 ≤ a1) (b1 : a1 ≤ 1073741824) (s0 : 0 ≤ a2) (s1 : a2 ≤ 1048576) (h1 : a0 ≤ 256) (h2 : a1 < 16777216) (h3 : 0 < a2) (h4 : 256 - a0 ≤ (16777216 - a1 + a2 - 1) / a2) (w : World) :
    Calls Try.prog 5 #[.int .i64 a0, .int .i64 a1, .int .i64 a2, .bool false] w fun e w' => e = .returned (.bool true) ∧ Below w.heap.size w w' := by
  have HG : Hid (Says a0 a1 a2 false (256 - a0)) := says_of _ _ _ _ (fun i hi => by have := ceil_le a1 a2 i h3; omega)
  have d1 : decide (a0 < 0) = false := decide_eq_false (by omega)
  have d2 : decide (1073741824 < a0) = false := decide_eq_false (by omega)
  have d3 : decide (a1 < 0) = false := decide_eq_false (by omega)
  have d4 : decide (1073741824 < a1) = false := decide_eq_false (by omega)
  have d5 : decide (a2 < 0) = false := decide_eq_false (by omega)
  have d6 : decide (1048576 < a2) = false := decide_eq_false (by omega)
  have hz : (a2 == 0) = false := by simp; omega
  have hq0 : 0 ≤ (16777216 - a1 + a2 - 1) / a2 := Int.ediv_nonneg (by omega) (by omega)
  have hq1 : (16777216 - a1 + a2 - 1) / a2 ≤ 16777216 := (ceil_le a1 a2 16777216 h3).2 (by have := Int.mul_le_mul_of_nonneg_left (show (1 : Int) ≤ a2 by omega) (show (0 : Int) ≤ 16777216 by omega); omega)
  have d7 : decide (256 - a0 < 0) = false := decide_eq_false (by omega)
  have d8 : decide (a1 < 16777216) = true := decide_eq_true (by omega)
  have d10 : decide ((16777216 - a1 + a2 - 1) / a2 < 256 - a0) = false := decide_eq_false (by omega)
  go_enter Try.func5, Try.ntmps5
  go_wp2_with fail
  go_loopw [13] (fun v wr => ∃ k : Nat, k ≤ 257 ∧ v = .int .i64 k ∧ Below w.heap.size w wr) (fun v _ => 257 - (intOf v).toNat)
  case atStart => exact ⟨0, by omega, rfl, Below.refl _ _⟩
  case round =>
    obtain ⟨k, hk, rfl, hb⟩ := hrel
    by_cases hlt : k ≤ 256
    · have hm := mul_bd k a2 hlt s0 s1
      have hlt' : (k : Int) ≤ 256 := by omega
      have hF := HG.out k (by omega)
      by_cases hK : (256 - a0 : Int) ≤ (k : Int)
      · have hF2 : fullB (a0 + (k : Int)) (a1 + (k : Int) * a2) false = true := by rw [hF]; simp [hK]
        clear hF
        go_wp2_with (go_at_call 16; refine (full_from w _ _ _ _ (by assumption)).mono ?_; rintro e w' ⟨rfl, hb⟩)
        go_roundw
        case rel => exact ⟨k + 1, by omega, by go_num, by assumption⟩
        case measure => simp [intOf]; omega
      · have hF2 : fullB (a0 + (k : Int)) (a1 + (k : Int) * a2) false = false := by rw [hF]; simp [hK]
        clear hF
        go_wp2_with (go_at_call 16; refine (full_from w _ _ _ _ (by assumption)).mono ?_; rintro e w' ⟨rfl, hb⟩)
        go_roundw
        case rel => exact ⟨k + 1, by omega, by go_num, by assumption⟩
        case measure => simp [intOf]; omega
    · go_wp2_with fail
      go_ret
      exact ⟨rfl, hb⟩

theorem walk (a0 : Int) (a1 : Int) (a2 : Int) (a3 : Bool) (w0 : (Lit.int .i64 a0).wf = true) (w1 : (Lit.int .i64 a1).wf = true) (w2 : (Lit.int .i64 a2).wf = true) (w : World) :
    Calls Try.prog 5 #[.int .i64 a0, .int .i64 a1, .int .i64 a2, .bool a3] w fun e w' => e = .returned (.bool true) ∧ Below w.heap.size w w' := by
  by_cases p0 : a0 < 0
  · go_enter Try.func5, Try.ntmps5
    go_wp2_with fail
    go_ret
    exact ⟨rfl, Below.refl _ _⟩
  by_cases p1 : 1073741824 < a0
  · go_enter Try.func5, Try.ntmps5
    go_wp2_with fail
    go_ret
    exact ⟨rfl, Below.refl _ _⟩
  by_cases b0 : a1 < 0
  · go_enter Try.func5, Try.ntmps5
    go_wp2_with fail
    go_ret
    exact ⟨rfl, Below.refl _ _⟩
  by_cases b1 : 1073741824 < a1
  · go_enter Try.func5, Try.ntmps5
    go_wp2_with fail
    go_ret
    exact ⟨rfl, Below.refl _ _⟩
  by_cases s0 : a2 < 0
  · go_enter Try.func5, Try.ntmps5
    go_wp2_with fail
    go_ret
    exact ⟨rfl, Below.refl _ _⟩
  by_cases s1 : 1048576 < a2
  · go_enter Try.func5, Try.ntmps5
    go_wp2_with fail
    go_ret
    exact ⟨rfl, Below.refl _ _⟩
  have p0 := Int.not_lt.1 p0
  have p1 := Int.not_lt.1 p1
  have b0 := Int.not_lt.1 b0
  have b1 := Int.not_lt.1 b1
  have s0 := Int.not_lt.1 s0
  have s1 := Int.not_lt.1 s1
  cases a3 with
  | true => exact walk_stop a0 a1 a2 p0 p1 b0 b1 s0 s1 w
  | false =>
    by_cases h1 : 256 < a0
    · by_cases h2 : 16777216 ≤ a1
      · exact walk_a1 a0 a1 a2 p0 p1 b0 b1 s0 s1 h1 h2 w
      · by_cases h3 : a2 = 0
        · exact walk_a2 a0 a1 a2 p0 p1 b0 b1 s0 s1 h1 (by omega) h3 w
        · exact walk_a3 a0 a1 a2 p0 p1 b0 b1 s0 s1 h1 (by omega) (by omega) w
    · by_cases h2 : 16777216 ≤ a1
      · by_cases h5 : a0 = 256
        · exact walk_b1e a0 a1 a2 p0 p1 b0 b1 s0 s1 (by omega) (by omega) h2 w
        · exact walk_b1 a0 a1 a2 p0 p1 b0 b1 s0 s1 (by omega) h2 w
      · by_cases h3 : a2 = 0
        · exact walk_b2 a0 a1 a2 p0 p1 b0 b1 s0 s1 (by omega) (by omega) h3 w
        · by_cases h4 : (16777216 - a1 + a2 - 1) / a2 < 256 - a0
          · exact walk_b3 a0 a1 a2 p0 p1 b0 b1 s0 s1 (by omega) (by omega) (by omega) h4 w
          · exact walk_b4 a0 a1 a2 p0 p1 b0 b1 s0 s1 (by omega) (by omega) (by omega) (by omega) w

/-! ### THE ROW's STEP: WRITTEN OUT: LEAVE IT -/
set_option maxRecDepth 100000 in
theorem lifted (os : Os) (started : os.Started) (H : Type) (enc : TypeId × Value → H) :
    ReturnsInHanded {} Try.checked os 5 .any (Rows.fnIntakeAdmitsClosedFormSpec.pre6 enc Try.prog Try.f5 Rows.fnIntakeAdmitsClosedFormRow.domain false) (Rows.fnIntakeAdmitsClosedFormSpec.post enc Try.prog Try.f5 false true false false) := by
  refine returnsInHanded_of_change (C := Try.checked) own started (by kernel_rfl) Try.func5
    (ChangeSpec.witness6 (enc := enc) (C := Try.checked) false ⟨#[], #[.int .i64 0, .int .i64 0, .int .i64 0, .bool false], []⟩ 8 (by kernel_rfl) (by kernel_rfl) (by kernel_rfl) (by kernel_rfl)) ?_
  intro W base args ds gs before hval0 hW hcnd _
  have hval : ∀ (j : Nat) t v, Try.f5.params[j]? = some t → args[j]? = some v → Value.okWide Try.prog W .any base t v := hval0
  have hW' := hW
  obtain ⟨p, q, hA0, hV, rfl, hfz, hnd⟩ := hW
  have hA : DataW.TrodAll enc Try.prog W 0 (fun _ => true) true Try.f5.params.toList args.toList ds p := hA0
  rw [Try.params5] at hA hval
  obtain ⟨v0, vs0, d0, ds0, p0, q0, hargs, rfl, rfl, h0, r0⟩ := trodAll_cons hA
  obtain ⟨v1, vs1, d1, ds1, p1, q1, rfl, rfl, rfl, h1, r1⟩ := trodAll_cons r0
  obtain ⟨v2, vs2, d2, ds2, p2, q2, rfl, rfl, rfl, h2, r2⟩ := trodAll_cons r1
  obtain ⟨v3, vs3, d3, ds3, p3, q3, rfl, rfl, rfl, h3, r3⟩ := trodAll_cons r2
  obtain ⟨rfl, rfl, rfl⟩ := trodAll_nil r3
  obtain rfl : args = #[v0, v1, v2, v3] := by cases args; simp_all
  obtain ⟨rfl, rfl⟩ := trodVars_none hV
  obtain ⟨a0, rfl, rfl, rfl, w0⟩ := open_int Try.underlying3 (hval 0 3 v0 rfl rfl) h0
  obtain ⟨a1, rfl, rfl, rfl, w1⟩ := open_int Try.underlying3 (hval 1 3 v1 rfl rfl) h1
  obtain ⟨a2, rfl, rfl, rfl, w2⟩ := open_int Try.underlying3 (hval 2 3 v2 rfl rfl) h2
  obtain ⟨a3, rfl, rfl, rfl⟩ := open_bool Try.underlying4 (hval 3 4 v3 rfl rfl) h3
  clear hA0 hval0
  simp only [List.append_nil] at hW'
  refine (walk a0 a1 a2 a3 w0 w1 w2 W).mono fun e W' ⟨he, bel⟩ => ?_
  subst he
  exact ⟨_, rfl, _, _, _, [], _, [], hW', trodAll_mk1 (shut_bool Try.underlying4 _), (trodAll_cons_mk (shut_int Try.underlying3 w0) (trodAll_cons_mk (shut_int Try.underlying3 w1) (trodAll_cons_mk (shut_int Try.underlying3 w2) (trodAll_cons_mk (shut_bool Try.underlying4 _) trodAll_mk0)))), rfl, bel.frame _, fun h => by cases h⟩

theorem over : Rows.fnIntakeAdmitsClosedFormRow.holds Try.pinned (OpenSpec.ofChange Rows.fnIntakeAdmitsClosedFormSpec) :=
  OpenClaim.holds_of_wide 5 Try.f5 rfl rfl rfl rfl rfl rfl rfl ⟨rfl, rfl, rfl, rfl, rfl⟩ rfl rfl rfl rfl rfl (by kernel_rfl) Try.func5 (by kernel_rfl)
    (of_decide_eq_true (by kernel_rfl)) (by unfold Func.isWrapper; first | (rw [if_pos (by decide +kernel)]; kernel_rfl) | (rw [if_neg (by decide +kernel)]; exact ⟨rfl, rfl⟩))
    (fun os started H enc _ => lifted os started H enc)

/-- ████ THE STATEMENT ████ -/
theorem proved : Rows.FnIntakeAdmitsClosedFormSaid :=
  over
#print axioms proved
end Go.Proofs.Qxb6604373a.fnIntakeAdmitsClosedForm
