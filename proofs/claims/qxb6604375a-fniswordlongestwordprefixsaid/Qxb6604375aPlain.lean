/-
  The plain laws: words over a set of bytes. No program in sight.
-/
import Derived.KernelRfl
namespace Go.Proofs.Qxb6604375a

/-- Is c a lower-case letter, a digit or e? -/
def inC (e c : Int) : Bool := decide (c = e) || (decide (97 ≤ c) && decide (c ≤ 122)) || (decide (48 ≤ c) && decide (c ≤ 57))

theorem inC_extra {e c : Int} (h : c = e) : inC e c = true := by simp [inC, h]
theorem inC_letter {e c : Int} (h1 : 97 ≤ c) (h2 : c ≤ 122) : inC e c = true := by simp [inC, h1, h2]
theorem inC_digit {e c : Int} (h1 : 48 ≤ c) (h2 : c ≤ 57) : inC e c = true := by simp [inC, h1, h2]
theorem inC_none {e c : Int} (h0 : ¬ c = e) (h1 : c < 97 ∨ 122 < c) (h2 : c < 48 ∨ 57 < c) : inC e c = false := by
  unfold inC
  have a1 : ¬ (97 ≤ c ∧ c ≤ 122) := by omega
  have a2 : ¬ (48 ≤ c ∧ c ≤ 57) := by omega
  by_cases h3 : 97 ≤ c <;> by_cases h4 : c ≤ 122 <;> by_cases h5 : 48 ≤ c <;> by_cases h6 : c ≤ 57 <;> simp [h0, h3, h4, h5, h6] <;> omega

/-- Every byte is in the set. -/
def okL (e : Int) (l : List UInt8) : Bool := l.all fun c => inC e c.toNat
/-- How many bytes are. -/
def cntL (e : Int) (l : List UInt8) : Nat := (l.filter fun c => inC e c.toNat).length
/-- A word. -/
def wordB (e : Int) (l : List UInt8) : Bool := okL e l && !l.isEmpty

theorem okL_snoc (e : Int) (l : List UInt8) (c : UInt8) : okL e (l ++ [c]) = (okL e l && inC e c.toNat) := by simp [okL]
theorem cntL_snoc (e : Int) (l : List UInt8) (c : UInt8) : cntL e (l ++ [c]) = cntL e l + if inC e c.toNat then 1 else 0 := by
  unfold cntL
  rw [List.filter_append]
  by_cases h : inC e c.toNat = true <;> simp [h]
theorem cntL_le (e : Int) (l : List UInt8) : cntL e l ≤ l.length := List.length_filter_le _ _

theorem cntL_all (e : Int) (l : List UInt8) : cntL e l = l.length ↔ okL e l = true := by
  unfold cntL okL
  rw [List.length_filter_eq_length_iff, List.all_eq_true]

theorem okL_take (e : Int) (l : List UInt8) (k : Nat) (h : k < l.length) : okL e (l.take (k + 1)) = (okL e (l.take k) && inC e (l[k]).toNat) := by
  rw [List.take_succ_eq_append_getElem h, okL_snoc]
theorem cntL_take (e : Int) (l : List UInt8) (k : Nat) (h : k < l.length) : cntL e (l.take (k + 1)) = cntL e (l.take k) + if inC e (l[k]).toNat then 1 else 0 := by
  rw [List.take_succ_eq_append_getElem h, cntL_snoc]

/-- A bad byte spoils every list that holds it. -/
theorem okL_bad (e : Int) (l : List UInt8) (k : Nat) (h : k < l.length) (hb : inC e (l[k]).toNat = false) : okL e l = false := by
  unfold okL
  rw [List.all_eq_false]
  exact ⟨l[k], List.getElem_mem h, by simp [hb]⟩

theorem wordB_bad {e : Int} {l : List UInt8} (h : okL e l = false) : wordB e l = false := by simp [wordB, h]
theorem wordB_ok {e : Int} {l : List UInt8} (h : okL e l = true) : wordB e l = !l.isEmpty := by simp [wordB, h]
theorem wordB_cnt (e : Int) (l : List UInt8) : wordB e l = (decide (0 < l.length) && decide (cntL e l = l.length)) := by
  rw [Bool.eq_iff_iff]
  cases l with
  | nil => simp [wordB]
  | cons a r =>
    have h := cntL_all e (a :: r)
    rw [List.length_cons] at h
    simp [wordB, h]
end Go.Proofs.Qxb6604375a
