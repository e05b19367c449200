/-
  sameBytes (function 8) at two slices that hold the same bytes; cloneBytes (function 9) at a slice that is not nil: contracts.
-/
import Derived.Test.Qxb6604357aProg
import Derived.WalkKit
import Derived.Deep.QuietTactic
import Derived.BigQuiet
import Derived.Deep.OwnRows
import Derived.Lib.SliceRun
namespace Go.Proofs.Qxb6604357a
open Go.RowKit

set_option maxHeartbeats 400000 in
theorem same_any (g1 g2 n c1 c2 : Nat) (z : Nat → Int) (w : World) (hn : n ≤ 1000)
    (h1 : ∀ j, j < n → w.cell? ⟨g1, j, none⟩ = some (.int .u8 (z j))) (h2 : ∀ j, j < n → w.cell? ⟨g2, j, none⟩ = some (.int .u8 (z j))) :
    Calls Try.prog 8 #[.slice (some ⟨g1, 0, none⟩) n c1, .slice (some ⟨g2, 0, none⟩) n c2] w fun e w' => e = .returned (.bool true) ∧ ∃ m, w' = w.drewN m := by
  have H1 : Hid (∀ j, j < n → w.cell? ⟨g1, j, none⟩ = some (.int .u8 (z j))) := h1
  have H2 : Hid (∀ j, j < n → w.cell? ⟨g2, j, none⟩ = some (.int .u8 (z j))) := h2
  clear h1 h2
  go_enter Try.func8, Try.ntmps8
  go_wp2
  go_loopw [5] (fun i wr => ∃ k m : Nat, k ≤ n ∧ i = .int .i64 k ∧ wr = w.drewN m) (fun i _ => n - (intOf i).toNat)
  case atStart => exact ⟨0, 0, Nat.zero_le _, rfl, rfl⟩
  case round =>
    obtain ⟨k, m, hk, rfl, rfl⟩ := hrel
    by_cases hlt : k < n
    · have g1c := H1.out k hlt
      have g2c := H2.out k hlt
      have hlt' : (k : Int) < (n : Int) := by omega
      go_wp2
      go_quiet (fail)
      go_wp2
      go_roundw
      case rel => exact ⟨k + 1, m + nq, by omega, by go_num, by simp⟩
      case measure => simp [intOf]; omega
    · go_wp2
      go_ret
      exact ⟨rfl, m, rfl⟩

theorem info5 : (Try.prog.info? 5).map (fun i => (i.zero, i.size, i.bytes)) = some (some (.int .u8 0), 1, 1) := by kernel_rfl

set_option maxHeartbeats 400000 in
theorem clone_any (g n c : Nat) (z : Nat → Int) (w : World) (hn : n ≤ 1000) (hg : g < w.heap.size)
    (h1 : ∀ j, j < n → w.cell? ⟨g, j, none⟩ = some (.int .u8 (z j))) :
    Calls Try.prog 9 #[.slice (some ⟨g, 0, none⟩) n c] w fun e w' => e = .returned (.slice (some ⟨w.heap.size, 0, none⟩) n n) ∧ w'.rowIs w.heap.size 5 n (fun j => .int .u8 (z j)) ∧ Below w.heap.size w w' := by
  have H1 : Hid (∀ j, j < n → w.cell? ⟨g, j, none⟩ = some (.int .u8 (z j))) := h1
  clear h1
  have hmk := run_make_row' (P := Try.prog) 23 5 (.int .u8 0) 1 Try.underlying23 info5 rfl .i64 .i64 n (by omega) (by omega)
  have hnil := fun (w : World) => Lib.run_eql_slice_nil (P := Try.prog) w 23 5 (some ⟨g, 0, none⟩) n c 0 0 Try.underlying23
  go_enter Try.func9, Try.ntmps9
  go_wp2
  clear hmk hnil
  go_loopw [4] (fun i wr => ∃ k : Nat, k ≤ n ∧ i = .int .i64 k ∧ wr.rowIs w.heap.size 5 n (fun j => if j < k then .int .u8 (z j) else .int .u8 0) ∧ Below w.heap.size w wr) (fun i _ => n - (intOf i).toNat)
  case atStart => exact ⟨0, Nat.zero_le _, rfl, (World.rowIs_made w _ n 5).congr (fun i hi => by simp), (Below.refl _ _).alloc (Nat.le_refl _) _⟩
  case round =>
    obtain ⟨k, hk, rfl, hrow, hb⟩ := hrel
    by_cases hlt : k < n
    · have c1 : wr.cell? ⟨g, k, none⟩ = some (.int .u8 (z k)) := (hb.cell (p := ⟨g, k, none⟩) hg).trans (H1.out k hlt)
      have c2 : wr.cell? ⟨w.heap.size, k, none⟩ = some (.int .u8 0) := by rw [hrow.cell hlt]; simp
      have c3 := hrow.frozen k
      have hlt' : (k : Int) < (n : Int) := by omega
      have HR : Hid (wr.rowIs w.heap.size 5 n (fun j => if j < k then .int .u8 (z j) else .int .u8 0)) := hrow
      clear hrow
      go_wp2
      go_roundw
      case rel =>
        refine ⟨k + 1, by omega, by go_num, (HR.out.set k (.int .u8 (z k))).congr (fun i hi => ?_), hb.setCell (Nat.le_refl _) _⟩
        by_cases e : i = k
        · subst e; simp
        · by_cases e2 : i < k
          · have : i < k + 1 := by omega
            simp [e, e2, this]
          · have : ¬ i < k + 1 := by omega
            simp [e, e2, this]
      case measure => simp [intOf]; omega
    · have : k = n := by omega
      subst this
      go_wp2
      go_ret
      exact ⟨rfl, hrow.congr (fun i hi => by simp [hi]), hb⟩
end Go.Proofs.Qxb6604357a
