/-
  bitLen (function 11), uvarintLen (function 7): contracts.
-/
import Derived.Test.Qxb6604357aProg
import Derived.Test.Qxb6604357aPlain
import Derived.WalkKit
namespace Go.Proofs.Qxb6604357a
open Go.RowKit

set_option maxHeartbeats 400000 in
theorem bitLen_any (v : Nat) (hv : v < 18446744073709551616) (w : World) :
    Calls Try.prog 11 #[.int .u64 v] w fun e w' => ∃ n : Nat, e = .returned (.int .i64 n) ∧ n ≤ 64 ∧ IsBits v n ∧ w' = w := by
  go_enter Try.func11, Try.ntmps11
  go_wp2
  go_loop [3, 4] (fun vn vx => ∃ k y : Nat, vn = .int .i64 k ∧ vx = .int .u64 y ∧ k ≤ 64 ∧ y = v / 2 ^ k ∧ (k = 0 ∨ 2 ^ (k - 1) ≤ v)) (fun _ vx => (intOf vx).toNat)
  case atStart => exact ⟨0, v, rfl, rfl, by omega, by simp, by omega⟩
  case round =>
    obtain ⟨k, y, rfl, rfl, hk, hy, hp⟩ := hrel
    have HY : Hid (y = v / 2 ^ k) := hy
    have HP : Hid (k = 0 ∨ 2 ^ (k - 1) ≤ v) := hp
    clear hy hp
    by_cases h0 : y = 0
    · have hz : v / 2 ^ k = 0 := by rw [← HY.out]; exact h0
      have HB : Hid (IsBits v k) := bits_zero v k hz HP.out
      subst h0
      clear hz
      go_wp2
      go_ret
      exact ⟨k, rfl, hk, HB.out, rfl⟩
    · have hne : v / 2 ^ k ≠ 0 := by rw [← HY.out]; exact h0
      have hk64 := bits_64 v k hv hne
      have HQ : Hid (2 ^ k ≤ v) := bits_step v k hne
      have HH : Hid (y / 2 = v / 2 ^ (k + 1)) := by show y / 2 = _; rw [HY.out]; exact bits_half v k
      have hb : ((y : Int) != 0) = true := by simp [bne_iff_ne]; omega
      have hy1 : 1 ≤ y := by omega
      have hy2 : y ≤ v := by rw [HY.out]; exact Nat.div_le_self _ _
      clear hne h0
      go_wp2
      go_round
      case rel => exact ⟨k + 1, y / 2, by go_num, by go_num, by omega, HH.out, .inr (by simpa using HQ.out)⟩
      case measure => simp [intOf]; omega

theorem uvarintLen_any (v : Nat) (hv : v < 18446744073709551616) (w : World) :
    Calls Try.prog 7 #[.int .u64 v] w fun e w' => e = .returned (.int .i64 ((Lib.uvarint v).length : Nat)) ∧ w' = w := by
  go_enter Try.func7, Try.ntmps7
  go_wp2_with fail
  refine (bitLen_any v hv w).mono ?_
  rintro e w1 ⟨n, rfl, hn, hb, rfl⟩
  have HU : Hid ((Lib.uvarint v).length = if n = 0 then 1 else (n + 6) / 7) := uvarint_bits v n hb
  clear hb
  by_cases h0 : n = 0
  · subst h0
    go_wp2
    go_ret
    rw [HU.out]
    exact ⟨rfl, rfl⟩
  · have h1 : 1 ≤ n := by omega
    have hc : ((n : Int) == 0) = false := by simp; omega
    have HU2 : Hid ((Lib.uvarint v).length = (n + 6) / 7) := by show _ = _; rw [HU.out, if_neg h0]
    clear HU h0
    go_wp2
    go_ret
    refine ⟨?_, rfl⟩
    rw [HU2.out]
    rfl
end Go.Proofs.Qxb6604357a
