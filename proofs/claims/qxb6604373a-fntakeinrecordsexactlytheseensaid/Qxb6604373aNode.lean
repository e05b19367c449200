/-
  ZZNewNode (12), ZZTakeIn (13; takeIn, 27, walked in place), ZZTaken (15): contracts.
-/
import Derived.Test.Qxb6604373aProg
import Derived.WalkKit
import Derived.Deep.OwnRows
import Derived.Deep.Draws
namespace Go.Proofs.Qxb6604373a
open Go.RowKit

theorem info74 : (Try.prog.info? 74).map (fun i => (i.zero, i.size, i.bytes)) = some (some (.agg #[.bool false, .bool false, .bool false]), 3, 3) := by kernel_rfl

/-- Block gn is a node whose peers lie in block gp: member q is taken just where 'T q'. -/
structure IsNode (w : World) (gn gp n : Nat) (T : Nat → Bool) : Prop where
  peers : w.cell? ⟨gn, 46, none⟩ = some (.slice (some ⟨gp, 0, none⟩) n n)
  taken : ∀ q, q < n → w.cell? ⟨gp, q * 3, none⟩ = some (.bool (T q))
  free : ∀ q, q < n → w.frozen? ⟨gp, q * 3, none⟩ = false
  apart : gn ≠ gp

theorem IsNode.of_blocks {w w' : World} {gn gp n : Nat} {T : Nat → Bool} (h : IsNode w gn gp n T) (e1 : w'.heap[gn]? = w.heap[gn]?) (e2 : w'.heap[gp]? = w.heap[gp]?) : IsNode w' gn gp n T :=
  ⟨(World.cell?_of_block (a := ⟨gn, 46, none⟩) e1).trans h.peers, fun q hq => (World.cell?_of_block (a := ⟨gp, q * 3, none⟩) e2).trans (h.taken q hq),
    fun q hq => (World.frozen?_of_block (a := ⟨gp, q * 3, none⟩) e2).trans (h.free q hq), h.apart⟩

theorem IsNode.congr {w : World} {gn gp n : Nat} {T T' : Nat → Bool} (h : IsNode w gn gp n T) (e : ∀ q, q < n → T q = T' q) : IsNode w gn gp n T' :=
  ⟨h.peers, fun q hq => by rw [h.taken q hq, e q hq], h.free, h.apart⟩

/-- A store into another block. -/
theorem IsNode.setOther {w : World} {gn gp n : Nat} {T : Nat → Bool} (h : IsNode w gn gp n T) {a : Addr} (h1 : gn ≠ a.block) (h2 : gp ≠ a.block) (v : Value) : IsNode (w.setCell a v) gn gp n T :=
  h.of_blocks (Below.heap_setCell _ _ _ _ h1) (Below.heap_setCell _ _ _ _ h2)

theorem IsNode.drewN {w : World} {gn gp n : Nat} {T : Nat → Bool} (h : IsNode w gn gp n T) (m : Nat) : IsNode (w.drewN m) gn gp n T := ⟨h.peers, h.taken, h.free, h.apart⟩

/-- Member q is taken in. -/
theorem IsNode.take {w : World} {gn gp n q : Nat} {T : Nat → Bool} (h : IsNode w gn gp n T) (hq : q < n) : IsNode (w.setCell ⟨gp, q * 3, none⟩ (.bool true)) gn gp n (fun r => decide (r = q) || T r) := by
  refine ⟨?_, fun r hr => ?_, fun r hr => ?_, h.apart⟩
  · rw [World.cell?_setCell_other _ _ _ _ (by intro e; injection e with e1 _ _; exact h.apart e1.symm)]
    exact h.peers
  · by_cases e : r = q
    · subst e
      rw [World.cell?_setCell_same _ _ _ (h.taken r hr)]
      simp
    · rw [World.cell?_setCell_other _ _ _ _ (by intro e'; injection e' with _ e1 _; omega), h.taken r hr]
      simp [e]
  · rw [World.frozen?_setCell]
    exact h.free r hr

theorem run_make_peers (n : Nat) (hn : n ≤ 65536) (w : World) :
    (Instr.makeSlice 44 (.int .i64 (n : Int)) (.int .i64 (n : Int))).run Try.prog w = .ok (.slice (some ⟨w.heap.size, 0, none⟩) n n) (w.alloc (.cells (madeCells #[.bool false, .bool false, .bool false] (n * 3)) 74)) := by
  obtain ⟨i, hi, hz, hs, hb⟩ := info_parts info74
  have hr := run_make (P := Try.prog) w 44 74 i _ Try.underlying44 hi hz .i64 .i64 n n (by omega) (Int.le_refl _) (by rw [hb]; omega) (by omega)
  have hc : (Value.agg #[.bool false, .bool false, .bool false]).cells = #[.bool false, .bool false, .bool false] := by kernel_rfl
  rw [hs, hc] at hr
  simpa using hr

theorem made_cell (n j : Nat) (hj : j < n * 3) : (madeCells #[.bool false, .bool false, .bool false] (n * 3))[j]? = some (Value.bool false) := by
  have h3 : j % 3 = 0 ∨ j % 3 = 1 ∨ j % 3 = 2 := by omega
  rcases h3 with h | h | h <;> simp [madeCells, hj, h]

/-- What '&node{peers: ps}' lays: the block's cells, the peers at cell 46. -/
theorem node_cells (a : Option Addr) (n c : Nat) : ∃ cells : Array Value,
    (∀ w, (Instr.build 71 #[(40, .slice a n c)]).run Try.prog w = .ok (.agg cells) w) ∧
    (∀ w, (Instr.box 71 (.agg cells)).run Try.prog w = .ok (.pointer (some ⟨w.heap.size, 0, none⟩)) (w.alloc (.cells cells 71))) ∧ cells[46]? = some (.slice a n c) :=
  ⟨(match Try.t71.zero with | some (.agg a) => a | _ => #[]).setIfInBounds 46 (.slice a n c), fun w => by kernel_rfl, fun w => by kernel_rfl, by kernel_rfl⟩

/-- The two operations as laws for the walk. -/
theorem wpList_node_build (w : World) {ops : Array Oper} {rest : List Oper} {o : Oper} {a : Act} {Q : Exit → Act → World → Prop}
    (hg : o.guard = none) (x : Operand) (hop : o.op = Op.build 71 #[(40, x)]) (ao : Option Addr) (n c : Nat) (hx : a.eval x = .slice ao n c) (cells : Array Value)
    (hb : ∀ w, (Instr.build 71 #[(40, .slice ao n c)]).run Try.prog w = .ok (.agg cells) w) (hK : wpList Try.prog ops Q rest (a.put o.dst (.agg cells)) w) :
    wpList Try.prog ops Q (o :: rest) a w := by
  refine wpList_plain hg fun K hK' => ?_
  unfold Oper.wp
  simp [execOp, hop, hx, hb, Result.andThen]
  exact hK' _ _ hK

theorem wpList_node_box (w : World) {ops : Array Oper} {rest : List Oper} {o : Oper} {a : Act} {Q : Exit → Act → World → Prop}
    (hg : o.guard = none) (x : Operand) (hop : o.op = Op.box 71 x) (cells : Array Value) (hx : a.eval x = .agg cells)
    (hb : ∀ w, (Instr.box 71 (.agg cells)).run Try.prog w = .ok (.pointer (some ⟨w.heap.size, 0, none⟩)) (w.alloc (.cells cells 71)))
    (hK : wpList Try.prog ops Q rest (a.put o.dst (.pointer (some ⟨w.heap.size, 0, none⟩))) (w.alloc (.cells cells 71))) :
    wpList Try.prog ops Q (o :: rest) a w := by
  refine wpList_plain hg fun K hK' => ?_
  unfold Oper.wp
  simp [execOp, hop, hx, hb, Result.andThen]
  exact hK' _ _ hK

theorem node_new (w : World) (n : Nat) (cells : Array Value) (h46 : cells[46]? = some (.slice (some ⟨w.heap.size, 0, none⟩) n n)) :
    IsNode ((w.alloc (Obj.cells (madeCells #[.bool false, .bool false, .bool false] (n * 3)) 74)).alloc (Obj.cells cells 71)) (w.heap.size + 1) w.heap.size n (fun _ => false) := by
  have hs : (w.alloc (Obj.cells (madeCells #[.bool false, .bool false, .bool false] (n * 3)) 74)).heap.size = w.heap.size + 1 := by simp
  have b1 : ((w.alloc (Obj.cells (madeCells #[.bool false, .bool false, .bool false] (n * 3)) 74)).alloc (Obj.cells cells 71)).heap[w.heap.size + 1]? = some (.cells cells 71) := by
    rw [← hs]; exact heap_alloc_new _ _
  have b0 : ((w.alloc (Obj.cells (madeCells #[.bool false, .bool false, .bool false] (n * 3)) 74)).alloc (Obj.cells cells 71)).heap[w.heap.size]? = some (.cells (madeCells #[.bool false, .bool false, .bool false] (n * 3)) 74) := by
    rw [Below.heap_alloc _ _ _ (by rw [hs]; omega)]; exact heap_alloc_new _ _
  refine ⟨?_, fun q hq => ?_, fun q hq => ?_, by omega⟩
  · rw [cell_of_row _ _ _ _ _ _ b1]; exact h46
  · rw [cell_of_row _ _ _ _ _ _ b0]; exact made_cell n (q * 3) (by omega)
  · exact frozen_of_row _ _ _ _ _ b0

set_option maxHeartbeats 400000 in
theorem newNode_any (n : Nat) (hn : n ≤ 65536) (w : World) :
    Calls Try.prog 12 #[.int .i64 n] w fun e w' => e = .returned (.pointer (some ⟨w.heap.size + 1, 0, none⟩)) ∧ IsNode w' (w.heap.size + 1) w.heap.size n (fun _ => false) ∧ Below w.heap.size w w' := by
  have hmk := run_make_peers n hn
  obtain ⟨cells, hb, hx, h46⟩ := node_cells (some ⟨w.heap.size, 0, none⟩) n n
  have HN := node_new w n cells h46
  clear h46
  go_enter Try.func12, Try.ntmps12
  go_wp2_with (first | (refine wpList_node_build _ rfl (.tmp 4) rfl _ n n rfl cells hb ?_) | (refine wpList_node_box _ rfl (.tmp 5) rfl cells rfl hx ?_))
  go_ret
  exact ⟨rfl, HN, ((Below.refl _ _).alloc (Nat.le_refl _) _).alloc (by simp) _⟩

set_option maxHeartbeats 400000 in
theorem takeIn_new (gn gp n q : Nat) (T : Nat → Bool) (w : World) (h : IsNode w gn gp n T) (hq : q < n) (ht : T q = false) (_hn : n ≤ 65536) :
    Calls Try.prog 13 #[.pointer (some ⟨gn, 0, none⟩), .int .i64 q] w fun e w' => e = .returned (.bool true) ∧ w' = w.setCell ⟨gp, q * 3, none⟩ (.bool true) := by
  have c1 := h.peers
  have c2 := h.taken q hq
  rw [ht] at c2
  have c3 := h.free q hq
  have hq' : (q : Int) < (n : Int) := by omega
  clear h
  go_enter Try.func13, Try.ntmps13
  go_wp2
  go_ret
  exact ⟨rfl, rfl⟩

set_option maxHeartbeats 400000 in
theorem takeIn_old (gn gp n q : Nat) (T : Nat → Bool) (w : World) (h : IsNode w gn gp n T) (hq : q < n) (ht : T q = true) (_hn : n ≤ 65536) :
    Calls Try.prog 13 #[.pointer (some ⟨gn, 0, none⟩), .int .i64 q] w fun e w' => e = .returned (.bool false) ∧ w' = w := by
  have c1 := h.peers
  have c2 := h.taken q hq
  rw [ht] at c2
  have hq' : (q : Int) < (n : Int) := by omega
  clear h
  go_enter Try.func13, Try.ntmps13
  go_wp2
  go_ret
  exact ⟨rfl, rfl⟩

set_option maxHeartbeats 400000 in
theorem taken_any (gn gp n q : Nat) (T : Nat → Bool) (w : World) (h : IsNode w gn gp n T) (hq : q < n) (_hn : n ≤ 65536) :
    Calls Try.prog 15 #[.pointer (some ⟨gn, 0, none⟩), .int .i64 q] w fun e w' => e = .returned (.bool (T q)) ∧ w' = w := by
  have c1 := h.peers
  have c2 := h.taken q hq
  have hq' : (q : Int) < (n : Int) := by omega
  clear h
  go_enter Try.func15, Try.ntmps15
  go_wp2
  go_ret
  exact ⟨rfl, rfl⟩
end Go.Proofs.Qxb6604373a
