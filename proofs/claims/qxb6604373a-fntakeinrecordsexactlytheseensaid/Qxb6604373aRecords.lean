/-
  FnTakeInRecordsExactlyTheSeen (function 4), where the lengths lie within the bounds that it asks for.
-/
import Derived.Test.Qxb6604373aNode
import Derived.Test.Qxb6604373aClone
import Derived.Test.Qxb6604373aPlain
import Derived.Deep.RegionWith
import Derived.Deep.QuietTactic
import Derived.BigQuiet
import Derived.WalkSmall
namespace Go.Proofs.Qxb6604373a
open Go.RowKit

theorem IsNode.of_heap {w w' : World} {gn gp n : Nat} {T : Nat → Bool} (h : IsNode w gn gp n T) (e : w'.heap = w.heap) : IsNode w' gn gp n T := h.of_blocks (by rw [e]) (by rw [e])

theorem rowIs_of_heap {w w' : World} {b t n : Nat} {f : Nat → Value} (h : w.rowIs b t n f) (e : w'.heap = w.heap) : w'.rowIs b t n f := h.of_block (by rw [e])

theorem taken_at (gn gp n q : Nat) (T : Nat → Bool) (b : Bool) (hb : T q = b) (w : World) (h : IsNode w gn gp n T) (hq : q < n) (hn : n ≤ 65536) :
    Calls Try.prog 15 #[.pointer (some ⟨gn, 0, none⟩), .int .i64 q] w fun e w' => e = .returned (.bool b) ∧ w' = w := by
  subst hb
  exact taken_any gn gp n q T w h hq hn

theorem below_of_heap {B : Nat} {w0 w w' : World} (h : Below B w0 w) (e : w'.heap = w.heap) (e1 : w'.os = w.os) (e2 : w'.tape = w.tape) (e3 : w'.output = w.output) : Below B w0 w' :=
  h.trans ⟨e1, e2, e3, by rw [e]; exact Nat.le_refl _, fun _ _ => by rw [e]⟩

/-- Who is taken in when the last loop stands at q. -/
def tk (p : Nat → Nat) (L q r : Nat) : Bool := decide (r < q) || seen p L r

theorem tk_zero (p : Nat → Nat) (L r : Nat) : seen p L r = tk p L 0 r := by simp [tk]
theorem tk_at (p : Nat → Nat) (L q : Nat) : tk p L q q = seen p L q := by simp [tk]
theorem tk_next (p : Nat → Nat) (L q : Nat) : tk p L (q + 1) q = true := by simp [tk]
theorem lt_step (p : Nat → Nat) (L q r : Nat) : (decide (r = q) || tk p L q r) = tk p L (q + 1) r := by
  unfold tk
  by_cases e : r = q
  · subst e; simp
  · by_cases e2 : r < q
    · have e3 : r < q + 1 := by omega
      simp [e2, e3]
    · have e3 : ¬ r < q + 1 := by omega
      simp [e, e2, e3]

theorem lt_stay {p : Nat → Nat} {L q : Nat} (h : tk p L q q = true) (r : Nat) : tk p L q r = tk p L (q + 1) r := by
  rw [← lt_step]
  by_cases e : r = q
  · subst e
    rw [h]; simp
  · simp [e]

theorem seen_again {p : Nat → Nat} {i : Nat} (h : seen p i (p i) = true) (q : Nat) : seen p i q = seen p (i + 1) q := by
  rw [seen_succ]
  by_cases e : q = p i
  · rw [e, h]; simp
  · simp [e]

set_option maxHeartbeats 4000000 in
theorem records_main (n : Nat) (a1 : Option Addr) (len1 cap1 : Nat) (z : Nat → Int) (w : World) (hn : n ≤ 65536) (hl : len1 ≤ 65536) (hE : Elems w a1 len1 z) (hNil : a1 = none → len1 = 0 ∧ cap1 = 0) :
    Calls Try.prog 4 #[.int .i64 n, .slice a1 len1 cap1] w fun e w' => e = .returned (.bool true) ∧ Below w.heap.size w w' := by
  have HE : Hid (Elems w a1 len1 z) := hE
  have HNil : Hid (a1 = none → len1 = 0 ∧ cap1 = 0) := hNil
  have d1 : decide ((65536 : Int) < (len1 : Int)) = false := decide_eq_false (by omega)
  have d2 : decide ((n : Int) < 0) = false := decide_eq_false (by omega)
  have d3 : decide ((65536 : Int) < (n : Int)) = false := decide_eq_false (by omega)
  clear hE hNil
  go_enter Try.func4, Try.ntmps4
  go_wp2_with (go_at_call 14; refine (bytes14_yes _ _ _ _ _ (by omega)).mono ?_; rintro e w' ⟨rfl, hw⟩; subst w')
  go_loop [5] (fun v => ∃ k : Nat, k ≤ len1 ∧ v = .int .i64 k ∧ ∀ j, j < k → 0 ≤ z j ∧ z j < n) (fun v => len1 - (intOf v).toNat)
  case atStart => exact ⟨0, Nat.zero_le _, rfl, fun j hj => absurd hj (by omega)⟩
  case round =>
    obtain ⟨k, hk, rfl, hr⟩ := hrel
    have HR : Hid (∀ j, j < k → 0 ≤ z j ∧ z j < n) := hr
    clear hr
    by_cases hlt : k < len1
    · obtain ⟨x, hx, hc⟩ := HE.out k hlt
      subst hx
      obtain ⟨y, hy⟩ : ∃ y, z k = y := ⟨_, rfl⟩
      have HY : Hid (z k = y) := hy
      have hc' : w.cell? (x.add k) = some (.int .i64 y) := by rw [← hy]; exact hc
      clear hc hy
      have hlt' : (k : Int) < (len1 : Int) := by omega
      by_cases hb : 0 ≤ y ∧ y < n
      · obtain ⟨hb1, hb2⟩ := hb
        go_wp2
        go_round
        case rel =>
          refine ⟨k + 1, by omega, by go_num, fun j hj => ?_⟩
          by_cases e : j = k
          · rw [e, HY.out]; exact ⟨hb1, hb2⟩
          · exact HR.out j (by omega)
        case measure => simp [intOf]; omega
      · by_cases hb1 : y < 0
        · go_wp2
          go_ret
          exact ⟨rfl, Below.refl _ _⟩
        · have hb2 : n ≤ y := by omega
          go_wp2
          go_ret
          exact ⟨rfl, Below.refl _ _⟩
    · have hkl : len1 ≤ k := by omega
      obtain ⟨p, hp⟩ : ∃ p : Nat → Nat, p = fun j => (z j).toNat := ⟨_, rfl⟩
      have HP : Hid (∀ j, j < len1 → z j = (p j : Int) ∧ p j < n) := fun j hj => by have := HR.out j (by omega); rw [hp]; show z j = ((z j).toNat : Int) ∧ (z j).toNat < n; omega
      have HEp : Hid (Elems w a1 len1 (fun j => (p j : Int))) := fun j hj => by
        obtain ⟨x, hx, hc⟩ := HE.out j hj
        exact ⟨x, hx, by rw [hc, (HP.out j hj).1]⟩
      clear hp HR HE
      go_wp2_with fail
      refine (clone_any a1 len1 cap1 _ w hl HEp.out HNil.out).mono ?_
      rintro e u1 ⟨a', rfl, hrow, bel1⟩
      have HRow1 : Hid (0 < len1 → a' = some ⟨w.heap.size, 0, none⟩ ∧ u1.rowIs w.heap.size 3 len1 (fun j => .int .i64 (p j : Int))) := hrow
      clear hrow HEp HNil
      have hs1 := bel1.size
      have hmk := run_make_row' (P := Try.prog) 22 3 (.int .i64 0) 8 Try.underlying22 info3 rfl .i64 .i64 n (by omega) (by omega)
      go_wp2_with fail
      clear hmk
      go_loopw [7] (fun v wr => ∃ k : Nat, k ≤ len1 ∧ v = .int .i64 k ∧ wr.rowIs u1.heap.size 3 n (fun q => .int .i64 (cnt p k q : Int)) ∧ (0 < len1 → wr.rowIs w.heap.size 3 len1 (fun j => .int .i64 (p j : Int))) ∧ Below w.heap.size w wr) (fun v _ => len1 - (intOf v).toNat)
      case atStart => exact ⟨0, Nat.zero_le _, rfl, (World.rowIs_made u1 _ n 3), fun h => (HRow1.out h).2.alloc _, bel1.alloc hs1 _⟩
      case round =>
        obtain ⟨i, hi, rfl, hrow, hcl, hbel⟩ := hrel
        have HRow : Hid (wr.rowIs u1.heap.size 3 n (fun q => .int .i64 (cnt p i q : Int))) := hrow
        have HCl : Hid (0 < len1 → wr.rowIs w.heap.size 3 len1 (fun j => .int .i64 (p j : Int))) := hcl
        have HBel : Hid (Below w.heap.size w wr) := hbel
        clear hrow hcl hbel
        by_cases hlt : i < len1
        · obtain ⟨ha', hrw⟩ := HRow1.out (by omega)
          subst ha'
          have hlt1 : w.heap.size < u1.heap.size := hrw.lt
          have hpm := (HP.out i (by omega)).2
          have c1 : wr.cell? ⟨w.heap.size, i, none⟩ = some (.int .i64 (p i : Int)) := (HCl.out (by omega)).cell (by omega)
          have c2 : wr.cell? ⟨u1.heap.size, p i, none⟩ = some (.int .i64 (cnt p i (p i) : Int)) := HRow.out.cell hpm
          obtain ⟨c, hc⟩ : ∃ c, cnt p i (p i) = c := ⟨_, rfl⟩
          have hcb : c ≤ 65536 := by have := cnt_le p i (p i); omega
          rw [hc] at c2
          have HC : Hid (cnt p i (p i) = c) := hc
          have c3 := HRow.out.frozen (p i)
          have hpm' : (p i : Int) < (n : Int) := by omega
          have hm' : (i : Int) < (len1 : Int) := by omega
          clear hrw hc
          go_wp2
          go_roundw
          case rel =>
            refine ⟨i + 1, by omega, by go_num, (HRow.out.set (p i) (.int .i64 ((c : Int) + 1))).congr (fun q hq => ?_), fun h => (HCl.out h).setOther (by show w.heap.size ≠ u1.heap.size; omega) _, HBel.out.setCell (by show w.heap.size ≤ u1.heap.size; omega) _⟩
            by_cases e : q = p i
            · rw [if_pos e, e, cnt_succ, if_pos rfl, HC.out]; rfl
            · rw [if_neg e, cnt_succ, if_neg (fun h => e h.symm)]; rfl
          case measure => simp [intOf]; omega
        · have ei : i = len1 := by omega
          have HCnt : Hid (wr.rowIs u1.heap.size 3 n (fun q => .int .i64 (cnt p len1 q : Int))) := by have h := HRow.out; rw [ei] at h; exact h
          clear ei HRow
          go_wp2_with fail
          go_loop [8, 9] (fun vd vq => ∃ q : Nat, q ≤ n ∧ vq = .int .i64 q ∧ vd = .int .i64 (dst p len1 q : Int)) (fun _ vq => n - (intOf vq).toNat)
          case atStart => exact ⟨0, Nat.zero_le _, rfl, rfl⟩
          case round =>
            obtain ⟨q, hq, rfl, rfl⟩ := hrel
            obtain ⟨d, hd⟩ : ∃ d, dst p len1 q = d := ⟨_, rfl⟩
            have hdb : d ≤ 65536 := by have := dst_le p len1 q; omega
            rw [hd]
            have HD : Hid (dst p len1 q = d) := hd
            clear hd
            by_cases hqn : q < n
            · have c1 : wr.cell? ⟨u1.heap.size, q, none⟩ = some (.int .i64 (cnt p len1 q : Int)) := HCnt.out.cell hqn
              obtain ⟨c, hc⟩ : ∃ c, cnt p len1 q = c := ⟨_, rfl⟩
              rw [hc] at c1
              have HC : Hid (cnt p len1 q = c) := hc
              have hqn' : (q : Int) < (n : Int) := by omega
              clear hc
              by_cases h0 : 0 < c
              · go_wp2
                go_round
                case rel => exact ⟨q + 1, by omega, by go_num, by simp only [dst, HC.out, HD.out, if_pos h0]; go_num⟩
                case measure => simp [intOf]; omega
              · go_wp2
                go_round
                case rel => exact ⟨q + 1, by omega, by go_num, by simp only [dst, HC.out, HD.out, if_neg h0]; go_num⟩
                case measure => simp [intOf]; omega
            · have eqn : q = n := by omega
              have HDn : Hid (dst p len1 n = d) := by have h := HD.out; rw [eqn] at h; exact h
              clear eqn
              clear HD
              go_wp2_with fail
              refine (newNode_any n hn wr).mono ?_
              rintro e u2 ⟨rfl, hnode, bel2⟩
              obtain ⟨gp, hgp⟩ : ∃ gp, gp = wr.heap.size := ⟨_, rfl⟩
              rw [← hgp] at hnode ⊢
              have hf2 : u1.heap.size < gp := by rw [hgp]; exact HCnt.out.lt
              have HCnt2 : Hid (u2.rowIs u1.heap.size 3 n (fun q => .int .i64 (cnt p len1 q : Int))) := HCnt.out.of_block (bel2.block _ (by rw [← hgp]; exact hf2))
              have HCl2 : Hid (0 < len1 → u2.rowIs w.heap.size 3 len1 (fun j => .int .i64 (p j : Int))) := fun h => (HCl.out h).of_block (bel2.block _ (by rw [← hgp]; omega))
              have HBel2 : Hid (Below w.heap.size w u2) := HBel.out.trans (bel2.mono (by rw [← hgp]; omega))
              have HNode : Hid (IsNode u2 (gp + 1) gp n (fun _ => false)) := hnode
              clear hnode bel2 hgp HCnt HCl HBel
              go_wp2_with fail
              go_loopw [11, 12] (fun va v wr => ∃ k : Nat, k ≤ len1 ∧ v = .int .i64 k ∧ va = .int .i64 (acc p k : Int) ∧ IsNode wr (gp + 1) gp n (seen p k) ∧ wr.rowIs u1.heap.size 3 n (fun q => .int .i64 (cnt p len1 q : Int)) ∧ (0 < len1 → wr.rowIs w.heap.size 3 len1 (fun j => .int .i64 (p j : Int))) ∧ Below w.heap.size w wr) (fun _ v _ => len1 - (intOf v).toNat)
              case atStart => exact ⟨0, Nat.zero_le _, rfl, rfl, HNode.out.congr (fun q hq => rfl), HCnt2.out, HCl2.out, HBel2.out⟩
              case round =>
                obtain ⟨i4, hi4, rfl, rfl, hnode, hrow, hcl, hbel⟩ := hrel
                have HRow : Hid (wr.rowIs u1.heap.size 3 n (fun q => .int .i64 (cnt p len1 q : Int))) := hrow
                have HCl : Hid (0 < len1 → wr.rowIs w.heap.size 3 len1 (fun j => .int .i64 (p j : Int))) := hcl
                have HN : Hid (IsNode wr (gp + 1) gp n (seen p i4)) := hnode
                have HBel : Hid (Below w.heap.size w wr) := hbel
                obtain ⟨A, hA⟩ : ∃ A, acc p i4 = A := ⟨_, rfl⟩
                have hAb : A ≤ 65536 := by have := acc_le p i4; omega
                rw [hA]
                have HA : Hid (acc p i4 = A) := hA
                clear hrow hcl hnode hbel hA HNode HCnt2 HCl2 HBel2
                by_cases hlt4 : i4 < len1
                · obtain ⟨ha', hrw⟩ := HRow1.out (by omega)
                  subst ha'
                  have hlt1 : w.heap.size < u1.heap.size := hrw.lt
                  have hpm := (HP.out i4 hlt4).2
                  have c1 : wr.cell? ⟨w.heap.size, i4, none⟩ = some (.int .i64 (p i4 : Int)) := (HCl.out (by omega)).cell (by omega)
                  have hi' : (i4 : Int) < (len1 : Int) := by omega
                  clear hrw
                  by_cases h0 : cnt p i4 (p i4) = 0
                  · have HS : Hid (seen p i4 (p i4) = false) := seen_false h0
                    have HA2 : Hid (acc p (i4 + 1) = A + 1) := by show acc p i4 + (if cnt p i4 (p i4) = 0 then 1 else 0) = A + 1; rw [HA.out, if_pos h0]
                    clear h0
                    go_wp2_with fail
                    refine (takeIn_new (gp + 1) gp n (p i4) (seen p i4) wr HN.out hpm HS.out hn).mono ?_
                    rintro e u4 ⟨rfl, rfl⟩
                    go_wp2_with fail
                    go_roundw
                    case rel =>
                      exact ⟨i4 + 1, by omega, by go_num, by rw [HA2.out]; go_num, (HN.out.take hpm).congr (fun q _ => (seen_succ p i4 q).symm), HRow.out.setOther (by show u1.heap.size ≠ gp; omega) _, fun h => (HCl.out h).setOther (by show w.heap.size ≠ gp; omega) _, HBel.out.setCell (by show w.heap.size ≤ gp; omega) _⟩
                    case measure => simp [intOf]; omega
                  · have HS : Hid (seen p i4 (p i4) = true) := seen_true h0
                    have HA2 : Hid (acc p (i4 + 1) = A) := by show acc p i4 + (if cnt p i4 (p i4) = 0 then 1 else 0) = A; rw [HA.out, if_neg h0, Nat.add_zero]
                    clear h0
                    go_wp2_with fail
                    refine (takeIn_old (gp + 1) gp n (p i4) (seen p i4) wr HN.out hpm HS.out hn).mono ?_
                    rintro e u4 ⟨rfl, hu4⟩
                    subst u4
                    go_wp2_with fail
                    go_roundw
                    case rel =>
                      exact ⟨i4 + 1, by omega, by go_num, by rw [HA2.out], HN.out.congr (fun q _ => seen_again HS.out q), HRow.out, HCl.out, HBel.out⟩
                    case measure => simp [intOf]; omega
                · have ei4 : i4 = len1 := by omega
                  have HN5 : Hid (IsNode wr (gp + 1) gp n (seen p len1)) := by have h := HN.out; rw [ei4] at h; exact h
                  clear ei4
                  have hAD : ((A : Int) != (d : Int)) = false := by
                    have e : i4 = len1 := by omega
                    have h1 := HA.out
                    rw [e, acc_dst p n len1 (fun j hj => (HP.out j hj).2), HDn.out] at h1
                    rw [h1]; simp
                  clear HN HA HDn
                  go_wp2_with fail
                  go_loopw [13] (fun v wr => ∃ q : Nat, q ≤ n ∧ v = .int .i64 q ∧ IsNode wr (gp + 1) gp n (tk p len1 q) ∧ wr.rowIs u1.heap.size 3 n (fun q => .int .i64 (cnt p len1 q : Int)) ∧ Below w.heap.size w wr) (fun v _ => n - (intOf v).toNat)
                  case atStart => exact ⟨0, Nat.zero_le _, rfl, HN5.out.congr (fun q hq => tk_zero p len1 q), HRow.out, HBel.out⟩
                  case round =>
                    obtain ⟨q5, hq5, rfl, hnode, hrow, hbel⟩ := hrel
                    have HRow5 : Hid (wr.rowIs u1.heap.size 3 n (fun q => .int .i64 (cnt p len1 q : Int))) := hrow
                    have HN6 : Hid (IsNode wr (gp + 1) gp n (tk p len1 q5)) := hnode
                    have HBel5 : Hid (Below w.heap.size w wr) := hbel
                    clear hrow hnode hbel HN5 HRow HBel HCl
                    by_cases hlt5 : q5 < n
                    · have c1 : wr.cell? ⟨u1.heap.size, q5, none⟩ = some (.int .i64 (cnt p len1 q5 : Int)) := HRow5.out.cell hlt5
                      have hlt5' : (q5 : Int) < (n : Int) := by omega
                      by_cases h0 : cnt p len1 q5 = 0
                      · have HT : Hid (tk p len1 q5 q5 = false) := (tk_at p len1 q5).trans (seen_false h0)
                        have HN7 : Hid (IsNode (wr.setCell ⟨gp, q5 * 3, none⟩ (.bool true)) (gp + 1) gp n (tk p len1 (q5 + 1))) := (HN6.out.take hlt5).congr (fun r _ => lt_step p len1 q5 r)
                        rw [h0] at c1
                        have c1' : wr.cell? ⟨u1.heap.size, q5, none⟩ = some (.int .i64 0) := c1
                        have k1 : (wr.setCell ⟨gp, q5 * 3, none⟩ (.bool true)).cell? ⟨u1.heap.size, q5, none⟩ = some (.int .i64 0) := by
                          rw [World.cell?_setCell_other _ _ _ _ (by intro e'; injection e' with e1 _ _; omega)]; exact c1'
                        clear h0 c1
                        go_wp2_with fail
                        go_quiet ((go_at_call 15; exact Calls.quiet_of_same (taken_at (gp + 1) gp n q5 (tk p len1 q5) false HT.out _ (by exact HN6.out.of_heap rfl) hlt5 hn)))
                        go_wp2_with fail
                        go_region_with (go_at_call 13; refine (takeIn_new (gp + 1) gp n q5 (tk p len1 q5) _ (by exact HN6.out.of_heap rfl) hlt5 HT.out hn).mono ?_; rintro e w' ⟨rfl, rfl⟩)
                        all_goals
                          go_wp2_with fail
                          refine (taken_at (gp + 1) gp n q5 (tk p len1 (q5 + 1)) true (tk_next p len1 q5) _ (by exact HN7.out.of_heap rfl) hlt5 hn).mono ?_
                          rintro e w7 ⟨rfl, rfl⟩
                          go_wp2_with fail
                          go_roundw
                          case rel =>
                            exact ⟨q5 + 1, by omega, by go_num, HN7.out.of_heap rfl, rowIs_of_heap (HRow5.out.setOther (a := ⟨gp, q5 * 3, none⟩) (by show u1.heap.size ≠ gp; omega) (.bool true)) rfl, below_of_heap (HBel5.out.setCell (p := ⟨gp, q5 * 3, none⟩) (by show w.heap.size ≤ gp; omega) (.bool true)) rfl rfl rfl rfl⟩
                          case measure => simp [intOf]; omega
                      · obtain ⟨c, hc⟩ : ∃ c, cnt p len1 q5 = c := ⟨_, rfl⟩
                        have HT : Hid (tk p len1 q5 q5 = true) := (tk_at p len1 q5).trans (seen_true h0)
                        rw [hc] at c1 h0
                        have hc1 : (0 : Int) < (c : Int) := by omega
                        have hc2 : ((c : Int) == 0) = false := beq_eq_false_iff_ne.2 (by omega)
                        have hc3 : decide ((0 : Int) < (c : Int)) = true := decide_eq_true hc1
                        have hc4 : 0 < c := by omega
                        have hc5 : decide (0 < c) = true := decide_eq_true hc4
                        clear hc
                        go_wp2_with fail
                        go_quiet ((go_at_call 15; exact Calls.quiet_of_same (taken_at (gp + 1) gp n q5 (tk p len1 q5) true HT.out _ (by exact HN6.out.of_heap rfl) hlt5 hn)))
                        go_wp2_with fail
                        obtain ⟨wx, hwx⟩ : ∃ wx, wr.drewN nq = wx := ⟨_, rfl⟩
                        rw [hwx]
                        have c1x : wx.cell? ⟨u1.heap.size, q5, none⟩ = some (.int .i64 (c : Int)) := by rw [← hwx]; exact c1
                        have HNx : Hid (IsNode wx (gp + 1) gp n (tk p len1 q5)) := by rw [← hwx]; exact HN6.out.of_heap rfl
                        have HRx : Hid (wx.rowIs u1.heap.size 3 n (fun q => .int .i64 (cnt p len1 q : Int))) := by rw [← hwx]; exact rowIs_of_heap HRow5.out rfl
                        have HBx : Hid (Below w.heap.size w wx) := by rw [← hwx]; exact below_of_heap HBel5.out rfl rfl rfl rfl
                        clear hwx
                        go_quiet ((go_at_call 13; exact Calls.quiet_of_same (takeIn_old (gp + 1) gp n q5 (tk p len1 q5) _ (by exact HNx.out.of_heap rfl) hlt5 HT.out hn)))
                        go_wp2_with fail
                        refine (taken_at (gp + 1) gp n q5 (tk p len1 q5) true HT.out _ (by exact HNx.out.of_heap rfl) hlt5 hn).mono ?_
                        rintro e w7 ⟨rfl, rfl⟩
                        go_wp2_with fail
                        go_roundw
                        case rel =>
                          exact ⟨q5 + 1, by omega, by go_num, (HNx.out.congr (fun r _ => lt_stay HT.out r)).of_heap rfl, rowIs_of_heap HRx.out rfl, below_of_heap HBx.out rfl rfl rfl rfl⟩
                        case measure => simp [intOf]; omega
                    · go_wp2_with fail
                      go_ret
                      exact ⟨rfl, HBel5.out⟩
end Go.Proofs.Qxb6604373a
