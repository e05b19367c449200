/-
  The plain laws over a script p of hellos: no program in sight.
-/
import Derived.KernelRfl
namespace Go.Proofs.Qxb6604373a

/-- How often q says hello among the first i. -/
def cnt (p : Nat → Nat) : Nat → Nat → Nat
  | 0, _ => 0
  | i + 1, q => cnt p i q + if p i = q then 1 else 0

/-- Has q said hello among the first i? -/
def seen (p : Nat → Nat) (i q : Nat) : Bool := decide (0 < cnt p i q)

theorem cnt_succ (p : Nat → Nat) (i q : Nat) : cnt p (i + 1) q = cnt p i q + if p i = q then 1 else 0 := rfl

theorem cnt_le (p : Nat → Nat) (i q : Nat) : cnt p i q ≤ i := by
  induction i with
  | zero => exact Nat.le_refl _
  | succ i ih => rw [cnt_succ]; split <;> omega

theorem cnt_pos (p : Nat → Nat) (i q : Nat) : 0 < cnt p i q ↔ ∃ j, j < i ∧ p j = q := by
  induction i with
  | zero => simp [cnt]
  | succ i ih =>
    rw [cnt_succ]
    constructor
    · intro h
      by_cases e : p i = q
      · exact ⟨i, by omega, e⟩
      · rw [if_neg e] at h
        obtain ⟨j, hj, he⟩ := ih.1 (by omega)
        exact ⟨j, by omega, he⟩
    · rintro ⟨j, hj, he⟩
      by_cases e : p i = q
      · rw [if_pos e]; omega
      · have hji : j < i := by
          apply Nat.lt_of_le_of_ne (by omega)
          intro h
          rw [h] at he
          exact e he
        have := ih.2 ⟨j, hji, he⟩
        omega

theorem seen_succ (p : Nat → Nat) (i q : Nat) : seen p (i + 1) q = (decide (q = p i) || seen p i q) := by
  unfold seen
  rw [cnt_succ, Bool.eq_iff_iff]
  by_cases e : p i = q
  · simp [e]
  · have e' : ¬ q = p i := fun h => e h.symm
    simp [e, e']

theorem seen_true {p : Nat → Nat} {i q : Nat} (h : ¬ cnt p i q = 0) : seen p i q = true := by unfold seen; simp; omega
theorem seen_false {p : Nat → Nat} {i q : Nat} (h : cnt p i q = 0) : seen p i q = false := by unfold seen; simp; omega

/-- F tells, of every member that says hello from i on, where it does so first. -/
def FirstFrom (p : Nat → Nat) (L i : Nat) (F : Nat → Int) : Prop := ∀ j, i ≤ j → j < L → (∀ k, i ≤ k → k < j → p k ≠ p j) → F (p j) = j

theorem first_start (p : Nat → Nat) (L : Nat) (F : Nat → Int) : FirstFrom p L L F := fun j h1 h2 _ => absurd h1 (by omega)

theorem first_step {p : Nat → Nat} {L i : Nat} {F : Nat → Int} (h : FirstFrom p L (i + 1) F) : FirstFrom p L i (fun q => if q = p i then (i : Int) else F q) := by
  intro j h1 h2 h3
  by_cases e : j = i
  · subst e; simp
  · have hne : p i ≠ p j := h3 i (Nat.le_refl _) (by omega)
    show (if p j = p i then (i : Int) else F (p j)) = j
    rw [if_neg (fun h => hne h.symm)]
    exact h j (by omega) h2 (fun k hk1 hk2 => h3 k (by omega) hk2)

theorem least (p : Nat → Nat) (i : Nat) : ∃ j, j ≤ i ∧ p j = p i ∧ ∀ k, k < j → p k ≠ p i := by
  induction i using Nat.strongRecOn with
  | _ i ih =>
    by_cases h : ∃ j, j < i ∧ p j = p i
    · obtain ⟨j, hj, he⟩ := h
      obtain ⟨m, hm, hme, hl⟩ := ih j hj
      exact ⟨m, by omega, hme.trans he, fun k hk => by rw [← he]; exact hl k hk⟩
    · exact ⟨i, Nat.le_refl _, rfl, fun k hk hc => h ⟨k, hk, hc⟩⟩

theorem first_yes {p : Nat → Nat} {L i : Nat} {F : Nat → Int} (h : FirstFrom p L 0 F) (hi : i < L) (h0 : cnt p i (p i) = 0) : F (p i) = i :=
  h i (by omega) hi (fun k _ hk hc => by have := (cnt_pos p i (p i)).2 ⟨k, hk, hc⟩; omega)

theorem first_no {p : Nat → Nat} {L i : Nat} {F : Nat → Int} (h : FirstFrom p L 0 F) (hi : i < L) (h0 : ¬ cnt p i (p i) = 0) : ¬ F (p i) = i := by
  obtain ⟨j, hj, he⟩ := (cnt_pos p i (p i)).1 (by omega)
  obtain ⟨m, hm, hme, hl⟩ := least p i
  have hmi : m < i := by
    have : m ≤ j := Nat.le_of_not_lt (fun hc => hl j hc he)
    omega
  have e := h m (by omega) (by omega) (fun k _ hk => by rw [hme]; exact hl k hk)
  rw [hme] at e
  omega

/-- How many of the members below m say hello among the first L. -/
def dst (p : Nat → Nat) (L : Nat) : Nat → Nat
  | 0 => 0
  | q + 1 => dst p L q + if 0 < cnt p L q then 1 else 0

/-- How many of the first i hellos are first ones. -/
def acc (p : Nat → Nat) : Nat → Nat
  | 0 => 0
  | i + 1 => acc p i + if cnt p i (p i) = 0 then 1 else 0

theorem dst_zero (p : Nat → Nat) (m : Nat) : dst p 0 m = 0 := by
  induction m with
  | zero => rfl
  | succ m ih => simp [dst, ih, cnt]

theorem dst_step (p : Nat → Nat) (L m : Nat) : dst p (L + 1) m = dst p L m + if p L < m ∧ cnt p L (p L) = 0 then 1 else 0 := by
  induction m with
  | zero => simp [dst]
  | succ m ih =>
    simp only [dst, ih, cnt_succ]
    by_cases e : p L = m
    · subst e
      by_cases h : cnt p L (p L) = 0
      · simp [h]
      · simp [h]
    · have e2 : (p L < m + 1) ↔ (p L < m) := by omega
      simp only [e2, if_neg e, Nat.add_zero]
      omega

theorem acc_dst (p : Nat → Nat) (n : Nat) : ∀ L, (∀ j, j < L → p j < n) → acc p L = dst p L n
  | 0, _ => (dst_zero p n).symm
  | L + 1, h => by
    rw [dst_step, ← acc_dst p n L (fun j hj => h j (by omega))]
    have hp := h L (by omega)
    simp [acc, hp]

theorem acc_le (p : Nat → Nat) (i : Nat) : acc p i ≤ i := by
  induction i with
  | zero => exact Nat.le_refl _
  | succ i ih => simp only [acc]; split <;> omega

theorem dst_le (p : Nat → Nat) (L i : Nat) : dst p L i ≤ i := by
  induction i with
  | zero => exact Nat.le_refl _
  | succ i ih => simp only [dst]; split <;> omega
end Go.Proofs.Qxb6604373a
