/-
  THE PROOF OF 'Rows.FnSnapshotRecordSizeAndFreshMemorySaid'. The frame ('lifted', 'over', 'proved') is the given shell's, at 'Below' in the place of 'Grown'; the walk is by contracts: ZZsnapshotRecord, uvarintLen, sameBytes, cloneBytes.
-/
import Derived.Test.Qxb6604357aRows
import Derived.WalkKit
import Derived.ProofKit
import Derived.OpenShut
import Derived.ShutString
import Derived.Test.Qxb6604357aSnap
import Derived.Test.Qxb6604357aBits
import Derived.Test.Qxb6604357aSame
import Derived.WalkSmall
namespace Go.Proofs.Qxb6604357a.fnSnapshotRecordSizeAndFreshMemory
open Go.ChangeShapes Go.WideShapes Go.ChangeAt Go.RowKit
open Go.ChangeMaps (open_string shut_string)
set_option linter.unusedVariables false      -- a walk need not use every 'w<i>' (that an integer argument fits its kind)

theorem own : ownKnob Try.prog.godebug = none := by kernel_rfl

/-! ### STEP 1: THE WALK -/
/-- The j-th byte of a list, as a number. -/
def zb (l : List UInt8) (j : Nat) : Int := ((l[j]?.getD 0).toNat : Int)

theorem own_row {w : World} {base n : Nat} {v : Value} {l : List UInt8} (h : w.ownsRow base 5 1 v n (Lib.byteCells l)) (hl : l.length = n) (hn : 1 ≤ n) :
    ∃ g cap f, v = .slice (some ⟨g, 0, none⟩) n cap ∧ base ≤ g ∧ n ≤ cap ∧ w.rowIs g 5 cap f ∧ ∀ j, j < n → f j = .int .u8 (zb l j) := by
  rcases h.2 with ⟨_, hz⟩ | ⟨g, cap, cur, hv, hb, hh, hnc, _, hs, ht⟩
  · omega
  · refine ⟨g, cap, fun j => cur[j]?.getD undef, hv, hb, hnc, ⟨cur, hh, by omega, fun i hi => ?_⟩, fun j hj => ?_⟩
    · have : i < cur.size := by omega
      simp [this]
    · have e : (cur.toList.take (n * 1))[j]? = (Lib.byteCells l)[j]? := by rw [ht]
      rw [List.getElem?_take, if_pos (by omega)] at e
      have e2 : cur[j]? = (Lib.byteCells l)[j]? := by simpa using e
      show cur[j]?.getD undef = _
      rw [e2]
      have : j < l.length := by omega
      simp [Lib.byteCells, zb, this]

theorem snap_length (c o r : Nat) : (snapBytes c o r).length = 1 + (Lib.uvarint c).length + (Lib.uvarint o).length + (Lib.uvarint r).length := by simp [snapBytes]; omega
theorem zb_head (c o r : Nat) : zb (snapBytes c o r) 0 = 9 := by simp [zb, snapBytes]

set_option maxHeartbeats 1600000 in
theorem walk (a0 : Int) (a1 : Int) (a2 : Int) (w0 : (Lit.int .u64 a0).wf = true) (w1 : (Lit.int .u64 a1).wf = true) (w2 : (Lit.int .i64 a2).wf = true) (w : World) :
    Calls Try.prog 4 #[.int .u64 a0, .int .u64 a1, .int .i64 a2] w fun e w' => e = .returned (.bool true) ∧ Below w.heap.size w w' := by
  have b0 := bounds_u64 w0
  have b1 := bounds_u64 w1
  obtain ⟨c, rfl⟩ := Int.eq_ofNat_of_zero_le b0.1
  obtain ⟨o, rfl⟩ := Int.eq_ofNat_of_zero_le b1.1
  obtain ⟨r, hr⟩ := Int.eq_ofNat_of_zero_le (wrap_u64_nonneg a2)
  have hc : c < 18446744073709551616 := by omega
  have ho : o < 18446744073709551616 := by omega
  have hrb : r < 18446744073709551616 := by have := IntKind.wrap_u64 a2; omega
  have lc := Lib.uvarint_length64 hc
  have lo := Lib.uvarint_length64 ho
  have lr := Lib.uvarint_length64 hrb
  have HR : Hid (IntKind.u64.wrap a2 = (r : Int)) := hr
  clear hr w0 w1 w2 b0 b1
  obtain ⟨N, hN⟩ : ∃ N, (snapBytes c o r).length = N := ⟨_, rfl⟩
  have hNb : 1 ≤ N ∧ N ≤ 1000 := by rw [← hN, snap_length]; omega
  have hNs : N = 1 + (Lib.uvarint c).length + (Lib.uvarint o).length + (Lib.uvarint r).length := by rw [← hN, snap_length]
  obtain ⟨z, hz⟩ : ∃ z, z = zb (snapBytes c o r) := ⟨_, rfl⟩
  have z0 : z 0 = 9 := by rw [hz]; exact zb_head c o r
  go_enter Try.func4, Try.ntmps4
  go_wp2_with fail
  refine (zzsnap_any c o r a2 hc ho hrb HR.out w).mono ?_
  rintro e u1 ⟨v1, rfl, h1, b1⟩
  rw [hN] at h1
  obtain ⟨g1, cap1, f1, hv1, hg1, hc1, hr1, hf1⟩ := own_row h1 hN hNb.1
  rw [hv1]
  have HN : Hid ((snapBytes c o r).length = N) := hN
  have HNs : Hid (N = 1 + (Lib.uvarint c).length + (Lib.uvarint o).length + (Lib.uvarint r).length) := hNs
  have HZ : Hid (z = zb (snapBytes c o r)) := hz
  rw [← hz] at hf1
  have HF1 : Hid (∀ j, j < N → f1 j = .int .u8 (z j)) := hf1
  have HR1 : Hid (u1.rowIs g1 5 cap1 f1) := hr1
  have HZ0 : Hid (z 0 = 9) := z0
  have hlt1 : g1 < u1.heap.size := hr1.lt
  clear hN hNs hz hf1 hr1 z0 h1 hv1
  go_wp2_with fail
  refine (zzsnap_any c o r a2 hc ho hrb HR.out u1).mono ?_
  rintro e u2 ⟨v2, rfl, h2, b2⟩
  rw [HN.out] at h2
  obtain ⟨g2, cap2, f2, hv2, hg2, hc2, hr2, hf2⟩ := own_row h2 HN.out hNb.1
  rw [hv2]
  rw [← HZ.out] at hf2
  have HF2 : Hid (∀ j, j < N → f2 j = .int .u8 (z j)) := hf2
  have HR2 : Hid (u2.rowIs g2 5 cap2 f2) := hr2
  have hlt2 : g2 < u2.heap.size := hr2.lt
  have hs2 : u1.heap.size ≤ u2.heap.size := b2.size
  have HR12 : Hid (u2.rowIs g1 5 cap1 f1) := HR1.out.of_block (b2.block g1 hlt1)
  clear hf2 hr2 h2 hv2 HR1
  have B2 : Below w.heap.size w u2 := b1.trans (b2.mono b1.size)
  clear b1 b2
  go_wp2_with fail
  refine (uvarintLen_any c hc u2).mono ?_
  rintro e u3 ⟨rfl, rfl⟩
  obtain ⟨A, hA⟩ : ∃ A, (Lib.uvarint c).length = A := ⟨_, rfl⟩
  rw [hA] at lc ⊢
  have HA : Hid ((Lib.uvarint c).length = A) := hA
  clear hA
  go_wp2_with fail
  refine (uvarintLen_any o ho u3).mono ?_
  rintro e u4 ⟨rfl, rfl⟩
  obtain ⟨B, hB⟩ : ∃ B, (Lib.uvarint o).length = B := ⟨_, rfl⟩
  rw [hB] at lo ⊢
  have HB : Hid ((Lib.uvarint o).length = B) := hB
  clear hB
  go_wp2_with fail
  rw [HR.out]
  refine (uvarintLen_any r hrb u4).mono ?_
  rintro e u5 ⟨rfl, rfl⟩
  obtain ⟨D, hD⟩ : ∃ D, (Lib.uvarint r).length = D := ⟨_, rfl⟩
  rw [hD] at lr ⊢
  have hne : ((N : Int) != 1 + (A : Int) + B + D) = false := by
    have h1 := HNs.out; have h2 := HA.out; have h3 := HB.out
    have e : (N : Int) = 1 + (A : Int) + B + D := by omega
    simp [e]
  clear hD
  go_wp2_with fail
  have C1 : ∀ j, j < N → u5.cell? ⟨g1, j, none⟩ = some (.int .u8 (z j)) := fun j hj => by rw [HR12.out.cell (by omega), HF1.out j hj]
  have C2 : ∀ j, j < N → u5.cell? ⟨g2, j, none⟩ = some (.int .u8 (z j)) := fun j hj => by rw [HR2.out.cell (by omega), HF2.out j hj]
  have hc0 : u5.cell? ⟨g1, 0, none⟩ = some (.int .u8 9) := by rw [C1 0 hNb.1, HZ0.out]
  refine (same_any g1 g2 N cap1 cap2 z u5 hNb.2 C1 C2).mono ?_
  rintro e u6 ⟨rfl, m, rfl⟩
  have HC2 : Hid (∀ j, j < N → u5.cell? ⟨g2, j, none⟩ = some (.int .u8 (z j))) := C2
  clear C1 C2
  go_wp2_with fail
  refine (clone_any g2 N cap2 z (u5.drewN m) hNb.2 hlt2 HC2.out).mono ?_
  rintro e u7 ⟨rfl, hrow7, b7⟩
  have hs7 : u5.heap.size < u7.heap.size := hrow7.lt
  have HB7 : Hid (Below w.heap.size w u7) := (below_drewN B2 m).trans (b7.mono (by simpa using B2.size))
  have HC3 : Hid (∀ j, j < N → u7.cell? ⟨u5.heap.size, j, none⟩ = some (.int .u8 (z j))) := fun j hj => hrow7.cell hj
  have HC4 : Hid (∀ j, j < N → u7.cell? ⟨g2, j, none⟩ = some (.int .u8 (z j))) := fun j hj => (b7.cell (p := ⟨g2, j, none⟩) hlt2).trans (HC2.out j hj)
  have HR7 : Hid (u7.rowIs g1 5 cap1 f1) := HR12.out.of_block (b7.block g1 (by show g1 < u5.heap.size; omega))
  have hsz7 : w.heap.size ≤ u7.heap.size := HB7.out.size
  clear hrow7 b7 HC2 HR12 B2 hne
  go_wp2
  go_loopw [11] (fun i wr => ∃ (k : Nat) (f : Nat → Value), k ≤ N ∧ i = .int .i64 k ∧ wr.rowIs g1 5 cap1 f ∧ (∀ j, j < N → ∃ y : Int, f j = .int .u8 y) ∧ (∀ b, b ≠ g1 → wr.heap[b]? = u7.heap[b]?) ∧ Below w.heap.size w wr) (fun i _ => N - (intOf i).toNat)
  case atStart => exact ⟨0, f1, Nat.zero_le _, rfl, HR7.out, fun j hj => ⟨z j, HF1.out j hj⟩, fun _ _ => rfl, HB7.out⟩
  case round =>
    obtain ⟨k, f, hk, rfl, hrow, hint, hoth, hbel⟩ := hrel
    have HO : Hid (∀ b, b ≠ g1 → wr.heap[b]? = u7.heap[b]?) := hoth
    have HI : Hid (∀ j, j < N → ∃ y : Int, f j = .int .u8 y) := hint
    have HW : Hid (wr.rowIs g1 5 cap1 f) := hrow
    have HBl : Hid (Below w.heap.size w wr) := hbel
    clear hoth hint hrow hbel
    by_cases hlt : k < N
    · obtain ⟨y, hy⟩ := HI.out k hlt
      have d1 : wr.cell? ⟨g1, k, none⟩ = some (.int .u8 y) := by rw [HW.out.cell (by omega), hy]
      have d2 := HW.out.frozen k
      have hlt' : (k : Int) < (N : Int) := by omega
      clear hy
      go_wp2
      go_roundw
      case rel =>
        refine ⟨k + 1, _, by omega, by go_num, HW.out.set k _, fun j hj => ?_, fun b hb => ?_, HBl.out.setCell hg1 _⟩
        · by_cases e : j = k
          · exact ⟨_, if_pos e⟩
          · obtain ⟨y', hy'⟩ := HI.out j hj
            exact ⟨y', by simp [e, hy']⟩
        · rw [Below.heap_setCell _ _ _ _ hb]
          exact HO.out b hb
      case measure => simp [intOf]; omega
    · go_wp2_with fail
      have hne1 : g2 ≠ g1 := by omega
      have hne2 : u5.heap.size ≠ g1 := by omega
      have E1 : ∀ j, j < N → wr.cell? ⟨g2, j, none⟩ = some (.int .u8 (z j)) := fun j hj => (World.cell?_of_block (w := u7) (HO.out g2 hne1)).trans (HC4.out j hj)
      have E2 : ∀ j, j < N → wr.cell? ⟨u5.heap.size, j, none⟩ = some (.int .u8 (z j)) := fun j hj => (World.cell?_of_block (w := u7) (HO.out _ hne2)).trans (HC3.out j hj)
      refine (same_any g2 u5.heap.size N cap2 N z wr hNb.2 E1 E2).mono ?_
      rintro e u8 ⟨rfl, m2, rfl⟩
      clear E1 E2
      go_wp2
      go_ret
      exact ⟨rfl, below_drewN HBl.out m2⟩

/-! ### THE ROW's STEP: WRITTEN OUT: LEAVE IT -/
set_option maxRecDepth 100000 in
theorem lifted (os : Os) (started : os.Started) (H : Type) (enc : TypeId × Value → H) :
    ReturnsInHanded {} Try.checked os 4 .any (Rows.fnSnapshotRecordSizeAndFreshMemorySpec.pre6 enc Try.prog Try.f4 Rows.fnSnapshotRecordSizeAndFreshMemoryRow.domain false) (Rows.fnSnapshotRecordSizeAndFreshMemorySpec.post enc Try.prog Try.f4 false true false false) := by
  refine returnsInHanded_of_change (C := Try.checked) own started (by kernel_rfl) Try.func4
    (ChangeSpec.witness6 (enc := enc) (C := Try.checked) false ⟨#[], #[.int .u64 0, .int .u64 0, .int .i64 0], []⟩ 8 (by kernel_rfl) (by kernel_rfl) (by kernel_rfl) (by kernel_rfl)) ?_
  intro W base args ds gs before hval0 hW hcnd _
  have hval : ∀ (j : Nat) t v, Try.f4.params[j]? = some t → args[j]? = some v → Value.okWide Try.prog W .any base t v := hval0
  have hW' := hW
  obtain ⟨p, q, hA0, hV, rfl, hfz, hnd⟩ := hW
  have hA : DataW.TrodAll enc Try.prog W 0 (fun _ => true) true Try.f4.params.toList args.toList ds p := hA0
  rw [Try.params4] at hA hval
  obtain ⟨v0, vs0, d0, ds0, p0, q0, hargs, rfl, rfl, h0, r0⟩ := trodAll_cons hA
  obtain ⟨v1, vs1, d1, ds1, p1, q1, rfl, rfl, rfl, h1, r1⟩ := trodAll_cons r0
  obtain ⟨v2, vs2, d2, ds2, p2, q2, rfl, rfl, rfl, h2, r2⟩ := trodAll_cons r1
  obtain ⟨rfl, rfl, rfl⟩ := trodAll_nil r2
  obtain rfl : args = #[v0, v1, v2] := by cases args; simp_all
  obtain ⟨rfl, rfl⟩ := trodVars_none hV
  obtain ⟨a0, rfl, rfl, rfl, w0⟩ := open_int Try.underlying22 (hval 0 22 v0 rfl rfl) h0
  obtain ⟨a1, rfl, rfl, rfl, w1⟩ := open_int Try.underlying22 (hval 1 22 v1 rfl rfl) h1
  obtain ⟨a2, rfl, rfl, rfl, w2⟩ := open_int Try.underlying3 (hval 2 3 v2 rfl rfl) h2
  clear hA0 hval0
  simp only [List.append_nil] at hW'
  refine (walk a0 a1 a2 w0 w1 w2 W).mono fun e W' ⟨he, bel⟩ => ?_
  subst he
  exact ⟨_, rfl, _, _, _, [], _, [], hW', trodAll_mk1 (shut_bool Try.underlying4 _), (trodAll_cons_mk (shut_int Try.underlying22 w0) (trodAll_cons_mk (shut_int Try.underlying22 w1) (trodAll_cons_mk (shut_int Try.underlying3 w2) trodAll_mk0))), rfl, bel.frame _, fun h => by cases h⟩

theorem over : Rows.fnSnapshotRecordSizeAndFreshMemoryRow.holds Try.pinned (OpenSpec.ofChange Rows.fnSnapshotRecordSizeAndFreshMemorySpec) :=
  OpenClaim.holds_of_wide 4 Try.f4 rfl rfl rfl rfl rfl rfl rfl ⟨rfl, rfl, rfl, rfl, rfl⟩ rfl rfl rfl rfl rfl (by kernel_rfl) Try.func4 (by kernel_rfl)
    (of_decide_eq_true (by kernel_rfl)) (by unfold Func.isWrapper; first | (rw [if_pos (by decide +kernel)]; kernel_rfl) | (rw [if_neg (by decide +kernel)]; exact ⟨rfl, rfl⟩))
    (fun os started H enc _ => lifted os started H enc)

/-- ████ THE STATEMENT ████ -/
theorem proved : Rows.FnSnapshotRecordSizeAndFreshMemorySaid :=
  over
#print axioms proved
end Go.Proofs.Qxb6604357a.fnSnapshotRecordSizeAndFreshMemory
