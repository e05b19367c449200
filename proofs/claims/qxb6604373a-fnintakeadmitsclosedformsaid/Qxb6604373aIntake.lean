/-
  ZZIntakeFull (function 16), with intake.full (function 28) walked in place.
-/
import Derived.Test.Qxb6604373aProg
import Derived.WalkKit
namespace Go.Proofs.Qxb6604373a
open Go.RowKit

/-- What intake.full answers. -/
def fullB (p b : Int) (s : Bool) : Bool := decide (256 ≤ p) || decide (16777216 ≤ b) || s

theorem fullB_yes {p b : Int} {s : Bool} (h : 256 ≤ p ∨ 16777216 ≤ b ∨ s = true) : fullB p b s = true := by
  unfold fullB
  rcases h with h | h | h <;> simp [h]
theorem fullB_no {p b : Int} (h1 : p < 256) (h2 : b < 16777216) : fullB p b false = false := by
  simp [fullB]; omega

set_option maxHeartbeats 400000 in
theorem full_any (p b : Int) (s : Bool) (w : World) :
    Calls Try.prog 16 #[.int .i64 p, .int .i64 b, .bool s] w fun e w' => e = .returned (.bool (fullB p b s)) ∧ Below w.heap.size w w' := by
  by_cases h1 : 256 ≤ p
  · have HF : Hid (fullB p b s = true) := fullB_yes (.inl h1)
    go_enter Try.func16, Try.ntmps16
    go_wp2
    go_ret
    rw [HF.out]
    exact ⟨rfl, (Below.refl _ _).alloc (Nat.le_refl _) _⟩
  · by_cases h2 : 16777216 ≤ b
    · have HF : Hid (fullB p b s = true) := fullB_yes (.inr (.inl h2))
      go_enter Try.func16, Try.ntmps16
      go_wp2
      go_ret
      rw [HF.out]
      exact ⟨rfl, (Below.refl _ _).alloc (Nat.le_refl _) _⟩
    · have HF : Hid (fullB p b s = s) := by show fullB p b s = s; simp [fullB]; omega
      go_enter Try.func16, Try.ntmps16
      go_wp2
      go_ret
      rw [HF.out]
      exact ⟨rfl, (Below.refl _ _).alloc (Nat.le_refl _) _⟩

/-- The same, as it is met in the middle of a call that began in w0. -/
theorem full_from (w0 : World) (p b : Int) (s : Bool) (w : World) (h : Below w0.heap.size w0 w) :
    Calls Try.prog 16 #[.int .i64 p, .int .i64 b, .bool s] w fun e w' => e = .returned (.bool (fullB p b s)) ∧ Below w0.heap.size w0 w' :=
  (full_any p b s w).mono fun _ _ ⟨he, hb⟩ => ⟨he, h.trans (hb.mono h.size)⟩
end Go.Proofs.Qxb6604373a
