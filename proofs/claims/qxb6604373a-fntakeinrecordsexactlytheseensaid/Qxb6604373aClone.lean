/-
  zzBytes_.. (10, 14): the bound on lengths; zzCloneInts (11): contracts, for a slice of whatever address, nil too.
-/
import Derived.Test.Qxb6604373aProg
import Derived.WalkKit
import Derived.Deep.OwnRows
import Derived.Lib.SliceRun
namespace Go.Proofs.Qxb6604373a
open Go.RowKit

theorem bytes10_yes (x : Int) (a : Option Addr) (n c : Nat) (w : World) (h : n ≤ 1048576) :
    Calls Try.prog 10 #[.int .i64 x, .slice a n c] w fun e w' => e = .returned (.bool true) ∧ w' = w := by
  go_enter Try.func10, Try.ntmps10
  go_wp2
  go_ret
  exact ⟨rfl, rfl⟩

theorem bytes10_no (x : Int) (a : Option Addr) (n c : Nat) (w : World) (h : 1048576 < n) :
    Calls Try.prog 10 #[.int .i64 x, .slice a n c] w fun e w' => e = .returned (.bool false) ∧ w' = w := by
  go_enter Try.func10, Try.ntmps10
  go_wp2
  go_ret
  exact ⟨rfl, rfl⟩

theorem bytes14_yes (x : Int) (a : Option Addr) (n c : Nat) (w : World) (h : n ≤ 1048576) :
    Calls Try.prog 14 #[.int .i64 x, .slice a n c] w fun e w' => e = .returned (.bool true) ∧ w' = w := by
  go_enter Try.func14, Try.ntmps14
  go_wp2
  go_ret
  exact ⟨rfl, rfl⟩

theorem bytes14_no (x : Int) (a : Option Addr) (n c : Nat) (w : World) (h : 1048576 < n) :
    Calls Try.prog 14 #[.int .i64 x, .slice a n c] w fun e w' => e = .returned (.bool false) ∧ w' = w := by
  go_enter Try.func14, Try.ntmps14
  go_wp2
  go_ret
  exact ⟨rfl, rfl⟩

theorem info3 : (Try.prog.info? 3).map (fun i => (i.zero, i.size, i.bytes)) = some (some (.int .i64 0), 1, 8) := by kernel_rfl

/-- The slice's elements are the numbers z 0, z 1, ..: whatever its address; nil where there is none. -/
def Elems (w : World) (a : Option Addr) (n : Nat) (z : Nat → Int) : Prop := ∀ j, j < n → ∃ x, a = some x ∧ w.cell? (x.add j) = some (.int .i64 (z j))

theorem clone_nil (w : World) :
    Calls Try.prog 11 #[.slice none 0 0] w fun e w' => e = .returned (.slice none 0 0) ∧ w' = w := by
  have hnil := fun (w : World) => Lib.run_eql_slice_nil (P := Try.prog) w 22 3 none 0 0 0 0 Try.underlying22
  go_enter Try.func11, Try.ntmps11
  go_wp2
  go_ret
  exact ⟨rfl, rfl⟩

theorem block_lt {w : World} {x : Addr} {v : Value} (h : w.cell? x = some v) : x.block < w.heap.size := World.block_lt_of_cell? w x h

set_option maxHeartbeats 400000 in
theorem clone_some (x : Addr) (n c : Nat) (z : Nat → Int) (w : World) (hn : n ≤ 65536) (hz : Elems w (some x) n z) :
    Calls Try.prog 11 #[.slice (some x) n c] w fun e w' => e = .returned (.slice (some ⟨w.heap.size, 0, none⟩) n n) ∧ w'.rowIs w.heap.size 3 n (fun j => .int .i64 (z j)) ∧ Below w.heap.size w w' := by
  have HZ : Hid (Elems w (some x) n z) := hz
  clear hz
  have hmk := run_make_row' (P := Try.prog) 22 3 (.int .i64 0) 8 Try.underlying22 info3 rfl .i64 .i64 n (by omega) (by omega)
  have hnil := fun (w : World) => Lib.run_eql_slice_nil (P := Try.prog) w 22 3 (some x) n c 0 0 Try.underlying22
  go_enter Try.func11, Try.ntmps11
  go_wp2
  clear hmk hnil
  go_loopw [4] (fun i wr => ∃ k : Nat, k ≤ n ∧ i = .int .i64 k ∧ wr.rowIs w.heap.size 3 n (fun j => if j < k then .int .i64 (z j) else .int .i64 0) ∧ Below w.heap.size w wr) (fun i _ => n - (intOf i).toNat)
  case atStart => exact ⟨0, Nat.zero_le _, rfl, (World.rowIs_made w _ n 3).congr (fun i hi => by simp), (Below.refl _ _).alloc (Nat.le_refl _) _⟩
  case round =>
    obtain ⟨k, hk, rfl, hrow, hb⟩ := hrel
    by_cases hlt : k < n
    · obtain ⟨x', hx', hc0⟩ := HZ.out k hlt
      obtain rfl : x = x' := by injection hx'
      have c1 : wr.cell? (x.add k) = some (.int .i64 (z k)) := by
        have hl : (x.add k).block < w.heap.size := block_lt hc0
        rw [hb.cell hl, hc0]
      have c2 : wr.cell? ⟨w.heap.size, k, none⟩ = some (.int .i64 0) := by rw [hrow.cell hlt]; simp
      have c3 := hrow.frozen k
      have hlt' : (k : Int) < (n : Int) := by omega
      have HR : Hid (wr.rowIs w.heap.size 3 n (fun j => if j < k then .int .i64 (z j) else .int .i64 0)) := hrow
      clear hrow hx' hc0
      go_wp2
      go_roundw
      case rel =>
        refine ⟨k + 1, by omega, by go_num, (HR.out.set k (.int .i64 (z k))).congr (fun i hi => ?_), hb.setCell (Nat.le_refl _) _⟩
        by_cases e : i = k
        · subst e; simp
        · by_cases e2 : i < k
          · have : i < k + 1 := by omega
            simp [e, e2, this]
          · have : ¬ i < k + 1 := by omega
            simp [e, e2, this]
      case measure => simp [intOf]; omega
    · have : k = n := by omega
      subst this
      go_wp2
      go_ret
      exact ⟨rfl, hrow.congr (fun i hi => by simp [hi]), hb⟩

/-- Nil or not: where there is an element, the copy is a row of its own. -/
theorem clone_any (a : Option Addr) (n c : Nat) (z : Nat → Int) (w : World) (hn : n ≤ 65536) (hz : Elems w a n z) (hnil : a = none → n = 0 ∧ c = 0) :
    Calls Try.prog 11 #[.slice a n c] w fun e w' => ∃ a', e = .returned (.slice a' n n) ∧ (0 < n → a' = some ⟨w.heap.size, 0, none⟩ ∧ w'.rowIs w.heap.size 3 n (fun j => .int .i64 (z j))) ∧ Below w.heap.size w w' := by
  cases a with
  | none =>
    obtain ⟨rfl, rfl⟩ := hnil rfl
    refine (clone_nil w).mono ?_
    rintro e w' ⟨rfl, rfl⟩
    exact ⟨none, rfl, fun h => absurd h (by omega), Below.refl _ _⟩
  | some x =>
    refine (clone_some x n c z w hn hz).mono ?_
    rintro e w' ⟨rfl, hr, hb⟩
    exact ⟨_, rfl, fun _ => ⟨rfl, hr⟩, hb⟩
end Go.Proofs.Qxb6604373a
