/-
  THE PROOF OF 'Rows.FnSnapshotRecordReadsBackSaid'. The frame ('lifted', 'over', 'proved') is the given shell's, at 'Below' in the place of 'Grown'; the walk is by contracts: ZZsnapshotRecord, readCanon.
-/
import Derived.Test.Qxb6604357aRows
import Derived.WalkKit
import Derived.ProofKit
import Derived.OpenShut
import Derived.ShutString
import Derived.Test.Qxb6604357aRead
namespace Go.Proofs.Qxb6604357a.fnSnapshotRecordReadsBack
open Go.ChangeShapes Go.WideShapes Go.ChangeAt Go.RowKit
open Go.ChangeMaps (open_string shut_string)
set_option linter.unusedVariables false      -- a walk need not use every 'w<i>' (that an integer argument fits its kind)

theorem own : ownKnob Try.prog.godebug = none := by kernel_rfl

/-! ### STEP 1: THE WALK -/
theorem snapBytes_head (c o r : Nat) (h : 0 < (snapBytes c o r).length) : (snapBytes c o r)[0] = 9 := rfl
theorem drop_c (c o r : Nat) : (snapBytes c o r).drop 1 = Lib.uvarint c ++ (Lib.uvarint o ++ Lib.uvarint r) := by simp [snapBytes]
theorem drop_o (c o r : Nat) : (snapBytes c o r).drop (1 + (Lib.uvarint c).length) = Lib.uvarint o ++ Lib.uvarint r := by
  rw [← List.drop_drop, drop_c, List.drop_left]
theorem drop_r (c o r : Nat) : (snapBytes c o r).drop (1 + (Lib.uvarint c).length + (Lib.uvarint o).length) = Lib.uvarint r ++ [] := by
  rw [← List.drop_drop, drop_o, List.drop_left, List.append_nil]
theorem snap_length (c o r : Nat) : (snapBytes c o r).length = 1 + (Lib.uvarint c).length + (Lib.uvarint o).length + (Lib.uvarint r).length := by simp [snapBytes]; omega

theorem read_at (g n c p x : Nat) (pi : Int) (l rest : List UInt8) (w : World) (hx : x < 18446744073709551616) (hl : l.length = n) (hn : n ≤ 1000)
    (hcell : ∀ j (hj : j < l.length), w.cell? ⟨g, j, none⟩ = some (.int .u8 (l[j]).toNat)) (hdrop : l.drop p = Lib.uvarint x ++ rest) (hp : pi = (p : Int)) :
    Calls Try.prog 6 #[.slice (some ⟨g, 0, none⟩) n c, .int .i64 pi] w fun e w' => e = .returned (.tuple #[.int .u64 x, .int .i64 ((p + (Lib.uvarint x).length : Nat) : Int), .bool true]) ∧ w' = w := by
  subst hp
  exact read_any g n c p x l rest w hx hl hn hcell hdrop

set_option maxHeartbeats 1600000 in
theorem walk (a0 : Int) (a1 : Int) (a2 : Int) (w0 : (Lit.int .u64 a0).wf = true) (w1 : (Lit.int .u64 a1).wf = true) (w2 : (Lit.int .i64 a2).wf = true) (w : World) :
    Calls Try.prog 3 #[.int .u64 a0, .int .u64 a1, .int .i64 a2] w fun e w' => e = .returned (.bool true) ∧ Below w.heap.size w w' := by
  have b0 := bounds_u64 w0
  have b1 := bounds_u64 w1
  obtain ⟨c, rfl⟩ := Int.eq_ofNat_of_zero_le b0.1
  obtain ⟨o, rfl⟩ := Int.eq_ofNat_of_zero_le b1.1
  obtain ⟨r, hr⟩ := Int.eq_ofNat_of_zero_le (wrap_u64_nonneg a2)
  have hc : c < 18446744073709551616 := by omega
  have ho : o < 18446744073709551616 := by omega
  have hrb : r < 18446744073709551616 := by have := IntKind.wrap_u64 a2; omega
  have lc := Lib.uvarint_length64 hc
  have lo := Lib.uvarint_length64 ho
  have lr := Lib.uvarint_length64 hrb
  have HR : Hid (IntKind.u64.wrap a2 = (r : Int)) := hr
  clear hr w0 w1 w2 b0 b1
  go_enter Try.func3, Try.ntmps3
  go_wp2_with fail
  refine (zzsnap_any c o r a2 hc ho hrb HR.out w).mono ?_
  rintro e u1 ⟨v1, rfl, h1, b1⟩
  obtain ⟨N, hN⟩ : ∃ N, (snapBytes c o r).length = N := ⟨_, rfl⟩
  have hNb : 1 ≤ N ∧ N ≤ 1000 := by rw [← hN, snap_length]; omega
  rw [hN] at h1
  obtain ⟨g, cap, hv, hcell⟩ := own_shape h1 hN hNb.1
  rw [hv]
  have hc0 : u1.cell? ⟨g, 0, none⟩ = some (.int .u8 9) := hcell 0 (by omega)
  have HC : Hid (∀ j (hj : j < (snapBytes c o r).length), u1.cell? ⟨g, j, none⟩ = some (.int .u8 ((snapBytes c o r)[j]).toNat)) := hcell
  have HN : Hid ((snapBytes c o r).length = N) := hN
  clear hcell hN h1 hv
  go_wp2_with fail
  refine (read_at g N cap 1 c 1 (snapBytes c o r) (Lib.uvarint o ++ Lib.uvarint r) u1 hc HN.out hNb.2 HC.out (drop_c c o r) rfl).mono ?_
  rintro e u2 ⟨rfl, rfl⟩
  obtain ⟨p1, hp1⟩ : ∃ p1, 1 + (Lib.uvarint c).length = p1 := ⟨_, rfl⟩
  rw [hp1]
  have H1 : Hid (1 + (Lib.uvarint c).length = p1) := hp1
  clear hp1
  go_wp2_with fail
  refine (read_at g N cap p1 o p1 (snapBytes c o r) (Lib.uvarint r) u2 ho HN.out hNb.2 HC.out (by rw [← H1.out]; exact drop_o c o r) rfl).mono ?_
  rintro e u3 ⟨rfl, rfl⟩
  obtain ⟨p2, hp2⟩ : ∃ p2, p1 + (Lib.uvarint o).length = p2 := ⟨_, rfl⟩
  rw [hp2]
  have H2 : Hid (p1 + (Lib.uvarint o).length = p2) := hp2
  clear hp2
  go_wp2_with fail
  refine (read_at g N cap p2 r p2 (snapBytes c o r) [] u3 hrb HN.out hNb.2 HC.out (by rw [← H2.out, ← H1.out]; exact drop_r c o r) rfl).mono ?_
  rintro e u4 ⟨rfl, rfl⟩
  have e3 : p2 + (Lib.uvarint r).length = N := by have := HN.out; have := H1.out; have := H2.out; have := snap_length c o r; omega
  rw [e3]
  have hr2 := HR.out
  go_wp2
  go_ret
  exact ⟨rfl, b1⟩

/-! ### THE ROW's STEP: WRITTEN OUT: LEAVE IT -/
set_option maxRecDepth 100000 in
theorem lifted (os : Os) (started : os.Started) (H : Type) (enc : TypeId × Value → H) :
    ReturnsInHanded {} Try.checked os 3 .any (Rows.fnSnapshotRecordReadsBackSpec.pre6 enc Try.prog Try.f3 Rows.fnSnapshotRecordReadsBackRow.domain false) (Rows.fnSnapshotRecordReadsBackSpec.post enc Try.prog Try.f3 false true false false) := by
  refine returnsInHanded_of_change (C := Try.checked) own started (by kernel_rfl) Try.func3
    (ChangeSpec.witness6 (enc := enc) (C := Try.checked) false ⟨#[], #[.int .u64 0, .int .u64 0, .int .i64 0], []⟩ 8 (by kernel_rfl) (by kernel_rfl) (by kernel_rfl) (by kernel_rfl)) ?_
  intro W base args ds gs before hval0 hW hcnd _
  have hval : ∀ (j : Nat) t v, Try.f3.params[j]? = some t → args[j]? = some v → Value.okWide Try.prog W .any base t v := hval0
  have hW' := hW
  obtain ⟨p, q, hA0, hV, rfl, hfz, hnd⟩ := hW
  have hA : DataW.TrodAll enc Try.prog W 0 (fun _ => true) true Try.f3.params.toList args.toList ds p := hA0
  rw [Try.params3] at hA hval
  obtain ⟨v0, vs0, d0, ds0, p0, q0, hargs, rfl, rfl, h0, r0⟩ := trodAll_cons hA
  obtain ⟨v1, vs1, d1, ds1, p1, q1, rfl, rfl, rfl, h1, r1⟩ := trodAll_cons r0
  obtain ⟨v2, vs2, d2, ds2, p2, q2, rfl, rfl, rfl, h2, r2⟩ := trodAll_cons r1
  obtain ⟨rfl, rfl, rfl⟩ := trodAll_nil r2
  obtain rfl : args = #[v0, v1, v2] := by cases args; simp_all
  obtain ⟨rfl, rfl⟩ := trodVars_none hV
  obtain ⟨a0, rfl, rfl, rfl, w0⟩ := open_int Try.underlying22 (hval 0 22 v0 rfl rfl) h0
  obtain ⟨a1, rfl, rfl, rfl, w1⟩ := open_int Try.underlying22 (hval 1 22 v1 rfl rfl) h1
  obtain ⟨a2, rfl, rfl, rfl, w2⟩ := open_int Try.underlying3 (hval 2 3 v2 rfl rfl) h2
  clear hA0 hval0
  simp only [List.append_nil] at hW'
  refine (walk a0 a1 a2 w0 w1 w2 W).mono fun e W' ⟨he, bel⟩ => ?_
  subst he
  exact ⟨_, rfl, _, _, _, [], _, [], hW', trodAll_mk1 (shut_bool Try.underlying4 _), (trodAll_cons_mk (shut_int Try.underlying22 w0) (trodAll_cons_mk (shut_int Try.underlying22 w1) (trodAll_cons_mk (shut_int Try.underlying3 w2) trodAll_mk0))), rfl, bel.frame _, fun h => by cases h⟩

theorem over : Rows.fnSnapshotRecordReadsBackRow.holds Try.pinned (OpenSpec.ofChange Rows.fnSnapshotRecordReadsBackSpec) :=
  OpenClaim.holds_of_wide 3 Try.f3 rfl rfl rfl rfl rfl rfl rfl ⟨rfl, rfl, rfl, rfl, rfl⟩ rfl rfl rfl rfl rfl (by kernel_rfl) Try.func3 (by kernel_rfl)
    (of_decide_eq_true (by kernel_rfl)) (by unfold Func.isWrapper; first | (rw [if_pos (by decide +kernel)]; kernel_rfl) | (rw [if_neg (by decide +kernel)]; exact ⟨rfl, rfl⟩))
    (fun os started H enc _ => lifted os started H enc)

/-- ████ THE STATEMENT ████ -/
theorem proved : Rows.FnSnapshotRecordReadsBackSaid := over
#print axioms proved
end Go.Proofs.Qxb6604357a.fnSnapshotRecordReadsBack
