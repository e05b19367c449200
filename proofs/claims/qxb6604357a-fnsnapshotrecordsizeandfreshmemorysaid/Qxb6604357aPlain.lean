/-
  The plain law: a varint has one byte for each started group of seven bits, at least one.
-/
import Derived.Lib.Varint
namespace Go.Proofs.Qxb6604357a

/-- n is v's bit length. -/
def IsBits (v n : Nat) : Prop := v < 2 ^ n ∧ (n = 0 ∨ 2 ^ (n - 1) ≤ v)

theorem uvarint_bits (v : Nat) : ∀ n, IsBits v n → (Lib.uvarint v).length = if n = 0 then 1 else (n + 6) / 7 := by
  induction v using Nat.strongRecOn with
  | _ v ih =>
    intro n h
    obtain ⟨h1, h2⟩ := h
    by_cases hv : v < 128
    · rw [Lib.uvarint_small hv]
      by_cases hn : n = 0
      · rw [if_pos hn]; rfl
      · rw [if_neg hn]
        have h3 : 2 ^ (n - 1) ≤ v := by rcases h2 with h | h; exact absurd h hn; exact h
        have h4 : n - 1 < 7 := by
          have : 2 ^ (n - 1) < 2 ^ 7 := by omega
          exact (Nat.pow_lt_pow_iff_right (by decide)).1 this
        have : (n + 6) / 7 = 1 := by omega
        rw [this]; rfl
    · rw [Lib.uvarint_big (by omega), List.length_cons]
      have h8 : 8 ≤ n := by
        have : 2 ^ 7 < 2 ^ n := by omega
        have := (Nat.pow_lt_pow_iff_right (by decide)).1 this
        omega
      have h3 : 2 ^ (n - 1) ≤ v := by rcases h2 with h | h; omega; exact h
      have e1 : 2 ^ n = 2 ^ (n - 7) * 128 := by rw [show (128 : Nat) = 2 ^ 7 from rfl, ← Nat.pow_add]; congr 1; omega
      have e2 : 2 ^ (n - 1) = 2 ^ (n - 7 - 1) * 128 := by rw [show (128 : Nat) = 2 ^ 7 from rfl, ← Nat.pow_add]; congr 1; omega
      have h5 : v / 128 < 2 ^ (n - 7) := by rw [Nat.div_lt_iff_lt_mul (by decide), ← e1]; exact h1
      have h6 : 2 ^ (n - 7 - 1) ≤ v / 128 := by rw [Nat.le_div_iff_mul_le (by decide), ← e2]; exact h3
      rw [ih (v / 128) (by omega) (n - 7) ⟨h5, .inr h6⟩, if_neg (by omega), if_neg (by omega)]
      omega

theorem bits_zero (v : Nat) (k : Nat) (h0 : v / 2 ^ k = 0) (h : k = 0 ∨ 2 ^ (k - 1) ≤ v) : IsBits v k := by
  refine ⟨?_, h⟩
  have := Nat.div_eq_zero_iff.1 h0
  have hp : 0 < 2 ^ k := Nat.pow_pos (by decide)
  omega

theorem bits_step (v k : Nat) (h : v / 2 ^ k ≠ 0) : 2 ^ k ≤ v := by
  apply Nat.le_of_not_lt
  intro hc
  exact h (Nat.div_eq_of_lt hc)

theorem bits_half (v k : Nat) : v / 2 ^ k / 2 = v / 2 ^ (k + 1) := by
  rw [Nat.div_div_eq_div_mul, Nat.pow_succ]

theorem bits_64 (v k : Nat) (hv : v < 18446744073709551616) (h : v / 2 ^ k ≠ 0) : k < 64 := by
  have h1 := bits_step v k h
  have : 2 ^ k < 2 ^ 64 := by
    have e : (2 : Nat) ^ 64 = 18446744073709551616 := by decide
    omega
  exact (Nat.pow_lt_pow_iff_right (by decide)).1 this
end Go.Proofs.Qxb6604357a
