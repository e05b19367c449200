/-
  binary.AppendUvarint at this seat's program: the library's contract (proved once over any program) laid at the numbers of this dump, in plain words.
-/
import Derived.Shelf.Bin.AppendUvarint
import Derived.Test.Qxb6604357aProg
import Derived.KernelRfl
namespace Go.Proofs.Qxb6604357a
open Go.Shelf Go.RowKit

def ren47 : Ren := { f := fun | 47 => 12 | n => n, t := fun | 22 => 23 | 33 => 22 | 4 => 4 | 5 => 5 | 45 => 31 | n => n, g := fun n => n }

theorem lays47 : LaysBin.n47 Try.prog ren47 := {
  mixed := by kernel_rfl
  f47 := Try.func12.trans (congrArg some (by kernel_rfl))
  t4 := Try.underlying4
  a4 := Try.isAgg4
  z4 := Try.sizeOf4
  v4 := Try.zeroValue4
  i4 := by kernel_rfl
  t5 := Try.underlying5
  a5 := Try.isAgg5
  z5 := Try.sizeOf5
  v5 := Try.zeroValue5
  i5 := by kernel_rfl
  t22 := Try.underlying23
  a22 := Try.isAgg23
  z22 := Try.sizeOf23
  v22 := Try.zeroValue23
  i22 := by kernel_rfl
  t33 := Try.underlying22
  a33 := Try.isAgg22
  z33 := Try.sizeOf22
  v33 := Try.zeroValue22
  i33 := by kernel_rfl
  t45 := Try.underlying31
  a45 := Try.isAgg31
  z45 := Try.sizeOf31
  v45 := Try.zeroValue31
  i45 := by kernel_rfl }

/-- binary.AppendUvarint (function 12) onto a slice that the call owns: the same row with x's varint behind it; below B nothing has turned. -/
theorem appendUvarint_any (B n x : Nat) (hx : x < 18446744073709551616) (sv : Value) (xs : List Value) (w : World) (hown : w.ownsRow B 5 1 sv n xs) (hBw : B ≤ w.heap.size) (hlim : n + 10 ≤ 140737488355328) :
    Calls Try.prog 12 #[sv, .int .u64 x] w fun e w' => ∃ v', e = .returned v' ∧ w'.ownsRow B 5 1 v' (n + (Lib.uvarint x).length) (xs ++ Lib.byteCells (Lib.uvarint x)) ∧ Below B w w' :=
  Any.binary_AppendUvarint lays47 B n x hx sv xs w hown hBw hlim
end Go.Proofs.Qxb6604357a
