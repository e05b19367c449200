/-
  snapshotRecord (function 10) and ZZsnapshotRecord (function 5): contracts.
-/
import Derived.Test.Qxb6604357aShelf
import Derived.WalkKit
namespace Go.Proofs.Qxb6604357a
open Go.RowKit

/-- The bytes of a snapshot record. -/
def snapBytes (c o r : Nat) : List UInt8 := [9] ++ Lib.uvarint c ++ Lib.uvarint o ++ Lib.uvarint r

set_option maxHeartbeats 400000 in
theorem snap_any (c o r : Nat) (ri : Int) (hc : c < 18446744073709551616) (ho : o < 18446744073709551616) (hr : r < 18446744073709551616) (hri : IntKind.u64.wrap ri = (r : Int)) (w : World) :
    Calls Try.prog 10 #[.int .u64 c, .int .u64 o, .int .i64 ri] w fun e w' => ∃ v', e = .returned v' ∧ w'.ownsRow w.heap.size 5 1 v' (snapBytes c o r).length (Lib.byteCells (snapBytes c o r)) ∧ Below w.heap.size w w' := by
  have HR : Hid (IntKind.u64.wrap ri = (r : Int)) := hri
  clear hri
  have lc := Lib.uvarint_length64 hc
  have lo := Lib.uvarint_length64 ho
  have lr := Lib.uvarint_length64 hr
  have h0 : (w.alloc (Obj.cells #[Value.int IntKind.u8 9] 5)).ownsRow w.heap.size 5 1 (.slice (some ⟨w.heap.size, 0, none⟩) 1 1) 1 [Value.int .u8 9] :=
    World.ownsRow_lit w #[Value.int IntKind.u8 9] 1 (Nat.le_refl _) (by decide) rfl
  go_enter Try.func10, Try.ntmps10
  go_wp2_with fail
  refine (appendUvarint_any w.heap.size 1 c hc _ _ _ h0 (by simp) (by omega)).mono ?_
  rintro e w1 ⟨v1, rfl, h1, b1⟩
  have hs1 := b1.size
  simp only [World.size_alloc] at hs1
  go_wp2_with fail
  refine (appendUvarint_any w.heap.size _ o ho _ _ _ h1 (by omega) (by omega)).mono ?_
  rintro e w2 ⟨v2, rfl, h2, b2⟩
  have hs2 := b2.size
  go_wp2_with fail
  rw [HR.out]
  refine (appendUvarint_any w.heap.size _ r hr _ _ _ h2 (by omega) (by omega)).mono ?_
  rintro e w3 ⟨v3, rfl, h3, b3⟩
  go_wp2
  go_ret
  refine ⟨v3, rfl, ?_, (((Below.refl _ w).alloc (Nat.le_refl _) _).trans b1).trans (b2.trans b3)⟩
  have e1 : (snapBytes c o r).length = 1 + (Lib.uvarint c).length + (Lib.uvarint o).length + (Lib.uvarint r).length := by simp [snapBytes]; omega
  have e2 : Lib.byteCells (snapBytes c o r) = [Value.int .u8 9] ++ Lib.byteCells (Lib.uvarint c) ++ Lib.byteCells (Lib.uvarint o) ++ Lib.byteCells (Lib.uvarint r) := by simp [snapBytes, Lib.byteCells]
  rw [e1, e2]
  exact h3

theorem zzsnap_any (c o r : Nat) (ri : Int) (hc : c < 18446744073709551616) (ho : o < 18446744073709551616) (hr : r < 18446744073709551616) (hri : IntKind.u64.wrap ri = (r : Int)) (w : World) :
    Calls Try.prog 5 #[.int .u64 c, .int .u64 o, .int .i64 ri] w fun e w' => ∃ v', e = .returned v' ∧ w'.ownsRow w.heap.size 5 1 v' (snapBytes c o r).length (Lib.byteCells (snapBytes c o r)) ∧ Below w.heap.size w w' := by
  have HR : Hid (IntKind.u64.wrap ri = (r : Int)) := hri
  clear hri
  go_enter Try.func5, Try.ntmps5
  go_wp2_with fail
  refine (snap_any c o r ri hc ho hr HR.out w).mono ?_
  rintro e w1 ⟨v1, rfl, h1, b1⟩
  go_wp2
  go_ret
  exact ⟨v1, rfl, h1, b1⟩
end Go.Proofs.Qxb6604357a
