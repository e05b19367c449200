/-
  FnTakeInAcceptsFirstHelloOnly (function 3), where the lengths lie within the bounds that it asks for.
-/
import Derived.Test.Qxb6604373aNode
import Derived.Test.Qxb6604373aClone
import Derived.Test.Qxb6604373aPlain
import Derived.Deep.RegionWith
import Derived.WalkSmall
namespace Go.Proofs.Qxb6604373a
open Go.RowKit

theorem seen_again {p : Nat → Nat} {i : Nat} (h : seen p i (p i) = true) (q : Nat) : seen p i q = seen p (i + 1) q := by
  rw [seen_succ]
  by_cases e : q = p i
  · rw [e, h]; simp
  · simp [e]

set_option maxHeartbeats 4000000 in
theorem accepts_main (n : Nat) (a1 : Option Addr) (len1 cap1 : Nat) (z : Nat → Int) (w : World) (hn : n ≤ 65536) (hl : len1 ≤ 65536) (hE : Elems w a1 len1 z) (hNil : a1 = none → len1 = 0 ∧ cap1 = 0) :
    Calls Try.prog 3 #[.int .i64 n, .slice a1 len1 cap1] w fun e w' => e = .returned (.bool true) ∧ Below w.heap.size w w' := by
  have HE : Hid (Elems w a1 len1 z) := hE
  have HNil : Hid (a1 = none → len1 = 0 ∧ cap1 = 0) := hNil
  have d1 : decide ((65536 : Int) < (len1 : Int)) = false := decide_eq_false (by omega)
  have d2 : decide ((n : Int) < 0) = false := decide_eq_false (by omega)
  have d3 : decide ((65536 : Int) < (n : Int)) = false := decide_eq_false (by omega)
  clear hE hNil
  go_enter Try.func3, Try.ntmps3
  go_wp2_with (go_at_call 10; refine (bytes10_yes _ _ _ _ _ (by omega)).mono ?_; rintro e w' ⟨rfl, hw⟩; subst w')
  go_loop [5] (fun v => ∃ k : Nat, k ≤ len1 ∧ v = .int .i64 k ∧ ∀ j, j < k → 0 ≤ z j ∧ z j < n) (fun v => len1 - (intOf v).toNat)
  case atStart => exact ⟨0, Nat.zero_le _, rfl, fun j hj => absurd hj (by omega)⟩
  case round =>
    obtain ⟨k, hk, rfl, hr⟩ := hrel
    have HR : Hid (∀ j, j < k → 0 ≤ z j ∧ z j < n) := hr
    clear hr
    by_cases hlt : k < len1
    · obtain ⟨x, hx, hc⟩ := HE.out k hlt
      subst hx
      obtain ⟨y, hy⟩ : ∃ y, z k = y := ⟨_, rfl⟩
      have HY : Hid (z k = y) := hy
      have hc' : w.cell? (x.add k) = some (.int .i64 y) := by rw [← hy]; exact hc
      clear hc hy
      have hlt' : (k : Int) < (len1 : Int) := by omega
      by_cases hb : 0 ≤ y ∧ y < n
      · obtain ⟨hb1, hb2⟩ := hb
        go_wp2
        go_round
        case rel =>
          refine ⟨k + 1, by omega, by go_num, fun j hj => ?_⟩
          by_cases e : j = k
          · rw [e, HY.out]; exact ⟨hb1, hb2⟩
          · exact HR.out j (by omega)
        case measure => simp [intOf]; omega
      · by_cases hb1 : y < 0
        · go_wp2
          go_ret
          exact ⟨rfl, Below.refl _ _⟩
        · have hb2 : n ≤ y := by omega
          go_wp2
          go_ret
          exact ⟨rfl, Below.refl _ _⟩
    · have hkl : len1 ≤ k := by omega
      obtain ⟨p, hp⟩ : ∃ p : Nat → Nat, p = fun j => (z j).toNat := ⟨_, rfl⟩
      have HP : Hid (∀ j, j < len1 → z j = (p j : Int) ∧ p j < n) := fun j hj => by have := HR.out j (by omega); rw [hp]; show z j = ((z j).toNat : Int) ∧ (z j).toNat < n; omega
      have HEp : Hid (Elems w a1 len1 (fun j => (p j : Int))) := fun j hj => by
        obtain ⟨x, hx, hc⟩ := HE.out j hj
        exact ⟨x, hx, by rw [hc, (HP.out j hj).1]⟩
      clear hp HR HE
      go_wp2_with fail
      refine (clone_any a1 len1 cap1 _ w hl HEp.out HNil.out).mono ?_
      rintro e u1 ⟨a', rfl, hrow, bel1⟩
      have HRow1 : Hid (0 < len1 → a' = some ⟨w.heap.size, 0, none⟩ ∧ u1.rowIs w.heap.size 3 len1 (fun j => .int .i64 (p j : Int))) := hrow
      clear hrow HEp HNil
      have hs1 := bel1.size
      have hmk := run_make_row' (P := Try.prog) 22 3 (.int .i64 0) 8 Try.underlying22 info3 rfl .i64 .i64 n (by omega) (by omega)
      go_wp2_with fail
      clear hmk
      go_loopw [7] (fun v wr => ∃ (m : Nat) (i : Int) (F : Nat → Int), v = .int .i64 i ∧ i + 1 = (m : Int) ∧ m ≤ len1 ∧ wr.rowIs u1.heap.size 3 n (fun q => .int .i64 (F q)) ∧ FirstFrom p len1 m F ∧ (0 < len1 → wr.rowIs w.heap.size 3 len1 (fun j => .int .i64 (p j : Int))) ∧ Below w.heap.size w wr) (fun v _ => (intOf v + 1).toNat)
      case atStart => exact ⟨len1, _, fun _ => 0, rfl, by omega, Nat.le_refl _, (World.rowIs_made u1 _ n 3), first_start p len1 _, fun h => (HRow1.out h).2.alloc _, bel1.alloc hs1 _⟩
      case round =>
        obtain ⟨m, i, F, rfl, hi, hm, hrow, hff, hcl, hbel⟩ := hrel
        have HRow : Hid (wr.rowIs u1.heap.size 3 n (fun q => .int .i64 (F q))) := hrow
        have HCl : Hid (0 < len1 → wr.rowIs w.heap.size 3 len1 (fun j => .int .i64 (p j : Int))) := hcl
        have HFF : Hid (FirstFrom p len1 m F) := hff
        have HBel : Hid (Below w.heap.size w wr) := hbel
        clear hrow hff hcl hbel
        cases m with
        | succ m =>
          obtain rfl : i = (m : Int) := by omega
          clear hi
          obtain ⟨ha', hrw⟩ := HRow1.out (by omega)
          subst ha'
          have hlt1 : w.heap.size < u1.heap.size := hrw.lt
          have hpm := (HP.out m (by omega)).2
          have c1 : wr.cell? ⟨w.heap.size, m, none⟩ = some (.int .i64 (p m : Int)) := (HCl.out (by omega)).cell (by omega)
          have c2 : wr.cell? ⟨u1.heap.size, p m, none⟩ = some (.int .i64 (F (p m))) := HRow.out.cell hpm
          have c3 := HRow.out.frozen (p m)
          have hpm' : (p m : Int) < (n : Int) := by omega
          have hm' : (m : Int) < (len1 : Int) := by omega
          clear hrw
          go_wp2
          go_roundw
          case rel =>
            refine ⟨m, _, _, rfl, by omega, by omega, (HRow.out.set (p m) (.int .i64 (m : Int))).congr (fun q hq => ?_), first_step HFF.out, fun h => (HCl.out h).setOther (by show w.heap.size ≠ u1.heap.size; omega) _, HBel.out.setCell (by show w.heap.size ≤ u1.heap.size; omega) _⟩
            by_cases e : q = p m
            · simp [e]
            · simp [e]
          case measure => simp [intOf]
        | zero =>
          obtain rfl : i = -1 := by omega
          clear hi
          go_wp2_with fail
          refine (newNode_any n hn wr).mono ?_
          rintro e u2 ⟨rfl, hnode, bel2⟩
          obtain ⟨gp, hgp⟩ : ∃ gp, gp = wr.heap.size := ⟨_, rfl⟩
          rw [← hgp] at hnode ⊢
          have hf2 : u1.heap.size < gp := by rw [hgp]; exact HRow.out.lt
          have HRow2 : Hid (u2.rowIs u1.heap.size 3 n (fun q => .int .i64 (F q))) := HRow.out.of_block (bel2.block _ (by rw [← hgp]; exact hf2))
          have HCl2 : Hid (0 < len1 → u2.rowIs w.heap.size 3 len1 (fun j => .int .i64 (p j : Int))) := fun h => (HCl.out h).of_block (bel2.block _ (by rw [← hgp]; omega))
          have HBel2 : Hid (Below w.heap.size w u2) := HBel.out.trans (bel2.mono (by rw [← hgp]; omega))
          have HNode : Hid (IsNode u2 (gp + 1) gp n (fun _ => false)) := hnode
          clear hnode bel2 hgp HRow HCl HBel
          go_wp2_with fail
          go_loopw [9] (fun v wr => ∃ k : Nat, k ≤ len1 ∧ v = .int .i64 k ∧ IsNode wr (gp + 1) gp n (seen p k) ∧ wr.rowIs u1.heap.size 3 n (fun q => .int .i64 (F q)) ∧ (0 < len1 → wr.rowIs w.heap.size 3 len1 (fun j => .int .i64 (p j : Int))) ∧ Below w.heap.size w wr) (fun v _ => len1 - (intOf v).toNat)
          case atStart => exact ⟨0, Nat.zero_le _, rfl, HNode.out.congr (fun q hq => rfl), HRow2.out, HCl2.out, HBel2.out⟩
          case round =>
            obtain ⟨i, hi, rfl, hnode, hrow, hcl, hbel⟩ := hrel
            have HRow : Hid (wr.rowIs u1.heap.size 3 n (fun q => .int .i64 (F q))) := hrow
            have HCl : Hid (0 < len1 → wr.rowIs w.heap.size 3 len1 (fun j => .int .i64 (p j : Int))) := hcl
            have HN : Hid (IsNode wr (gp + 1) gp n (seen p i)) := hnode
            have HBel : Hid (Below w.heap.size w wr) := hbel
            clear hrow hcl hnode hbel HNode HRow2 HCl2 HBel2
            by_cases hlt : i < len1
            · obtain ⟨ha', hrw⟩ := HRow1.out (by omega)
              subst ha'
              have hlt1 : w.heap.size < u1.heap.size := hrw.lt
              have hpm := (HP.out i hlt).2
              have c1 : wr.cell? ⟨w.heap.size, i, none⟩ = some (.int .i64 (p i : Int)) := (HCl.out (by omega)).cell (by omega)
              have c2 : wr.cell? ⟨u1.heap.size, p i, none⟩ = some (.int .i64 (F (p i))) := HRow.out.cell hpm
              have hpm' : (p i : Int) < (n : Int) := by omega
              have hi' : (i : Int) < (len1 : Int) := by omega
              clear hrw
              by_cases h0 : cnt p i (p i) = 0
              · have e1 : (F (p i) == (i : Int)) = true := beq_iff_eq.2 (first_yes HFF.out hlt h0)
                have HS : Hid (seen p i (p i) = false) := seen_false h0
                have k1 : (wr.setCell ⟨gp, p i * 3, none⟩ (.bool true)).cell? ⟨w.heap.size, i, none⟩ = some (.int .i64 (p i : Int)) := by
                  rw [World.cell?_setCell_other _ _ _ _ (by intro e'; injection e' with e1 _ _; omega)]; exact c1
                have k2 : (wr.setCell ⟨gp, p i * 3, none⟩ (.bool true)).cell? ⟨u1.heap.size, p i, none⟩ = some (.int .i64 (F (p i))) := by
                  rw [World.cell?_setCell_other _ _ _ _ (by intro e'; injection e' with e1 _ _; omega)]; exact c2
                clear h0
                go_wp2_with fail
                go_region_with (go_at_call 13; refine (takeIn_new (gp + 1) gp n (p i) (seen p i) _ (by exact HN.out.drewN 1) hpm HS.out hn).mono ?_; rintro e w' ⟨rfl, rfl⟩)
                all_goals
                  go_wp2_with fail
                  go_roundw
                  case rel =>
                    exact ⟨i + 1, by omega, by go_num, ((HN.out.take hpm).congr (fun q _ => (seen_succ p i q).symm)).drewN 1, (HRow.out.setOther (by show u1.heap.size ≠ gp; omega) _).drew, fun h => ((HCl.out h).setOther (by show w.heap.size ≠ gp; omega) _).drew, (HBel.out.setCell (by show w.heap.size ≤ gp; omega) _).drew⟩
                  case measure => simp [intOf]; omega
              · have e1 : (F (p i) == (i : Int)) = false := beq_eq_false_iff_ne.2 (first_no HFF.out hlt h0)
                have HS : Hid (seen p i (p i) = true) := seen_true h0
                clear h0
                go_wp2_with fail
                go_region_with (go_at_call 13; refine (takeIn_old (gp + 1) gp n (p i) (seen p i) _ (by exact HN.out.drewN 1) hpm HS.out hn).mono ?_; rintro e w' ⟨rfl, rfl⟩)
                all_goals
                  go_wp2_with fail
                  go_roundw
                  case rel =>
                    exact ⟨i + 1, by omega, by go_num, (HN.out.congr (fun q _ => seen_again HS.out q)).drewN 1, HRow.out.drew, fun h => (HCl.out h).drew, HBel.out.drew⟩
                  case measure => simp [intOf]; omega
            · go_wp2_with fail
              go_ret
              exact ⟨rfl, HBel.out⟩
end Go.Proofs.Qxb6604373a
