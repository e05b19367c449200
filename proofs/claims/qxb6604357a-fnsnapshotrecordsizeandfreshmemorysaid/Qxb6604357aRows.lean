/-
  No cell of these rows narrows 'for every input' (looked for: loops, veiled, ifaces, maps, wideKeys, modest, calm, conditions, laid).
  DERIVED. THE GIVEN ROWS OF THIS SEAT. 2 by the template 'for every input the law returns true; each argument reads behind the call as it read before'; 0 by the template 'total and deterministic' (their statements: Qxb6604357aTotals.lean).
  GIVEN WITH THE SEED: the statements are not yours to turn. If you find one false, say at which input.
  Laid BY PROGRAM, IN A SANDBOX (cutbox-rows.mjs): the forced cells as the released guide's own fill.sh prints them over the translation 03ee78feef94c059… (all of the seat's roots in one cut). By AI agents, Wed Nov 11 2026. No macro, syntax, notation, axiom, sorry.
-/
import Derived.Test.Qxb6604357aChecked
import GoSem.Claim
import GoSem.ClaimJoined
import GoSem.ClaimMapViews
import Derived.JoinedTies
import Derived.KernelRfl
namespace Go.Proofs.Qxb6604357a
/- THE CELL 'sum', in the pinned program and in every row, IS THE sha256 OF THE DUMP (.gsa) THAT Qxb6604357aProg.lean LOADS. Nothing in Lean hashes anything: it is a label: what it is worth is what the hold of that sum in a sandbox is worth. -/
noncomputable def Try.pinned : Pinned := { name := "qxb6604357a", sum := "03ee78feef94c059605d23aec2c87f1bab461e0852aa9cfd045d65394f15581e", checked := Try.checked }
namespace Rows
def none {H : Type} : Left H := { results := [], args := [] }

/-- 'zzlaws_root_b1.FnSnapshotRecordReadsBack': WHATEVER THE INPUT: true; the input reads as it did. -/
def fnSnapshotRecordReadsBackSpec : ChangeSpec := { name := "fnSnapshotRecordReadsBack", fn := fun _ => fun
  | [d1, d2, d3] => { results := [.lit (.bool true)], args := [d1, d2, d3] }
  | _ => none }
def fnSnapshotRecordReadsBackRow : OpenClaim := { program := "qxb6604357a", sum := "03ee78feef94c059605d23aec2c87f1bab461e0852aa9cfd045d65394f15581e", func := "example.com/atomkeep/atomkeep/zzlaws_root_b1.FnSnapshotRecordReadsBack", spec := "fnSnapshotRecordReadsBack", apart := false }
def FnSnapshotRecordReadsBackSaid : Prop := fnSnapshotRecordReadsBackRow.holds Try.pinned (OpenSpec.ofChange fnSnapshotRecordReadsBackSpec)

/-- ITS FALSE NEIGHBOUR: 'it returns false'. Refute it at one input. -/
def fnSnapshotRecordReadsBackWrong : ChangeSpec := { name := "fnSnapshotRecordReadsBack", fn := fun _ => fun
  | [d1, d2, d3] => { results := [.lit (.bool false)], args := [d1, d2, d3] }
  | _ => none }
def FnSnapshotRecordReadsBackWrongFalsely : Prop := fnSnapshotRecordReadsBackRow.holds Try.pinned (OpenSpec.ofChange fnSnapshotRecordReadsBackWrong)

/-- 'zzlaws_root_b1.FnSnapshotRecordSizeAndFreshMemory': WHATEVER THE INPUT: true; the input reads as it did. -/
def fnSnapshotRecordSizeAndFreshMemorySpec : ChangeSpec := { name := "fnSnapshotRecordSizeAndFreshMemory", fn := fun _ => fun
  | [d1, d2, d3] => { results := [.lit (.bool true)], args := [d1, d2, d3] }
  | _ => none }
def fnSnapshotRecordSizeAndFreshMemoryRow : OpenClaim := { program := "qxb6604357a", sum := "03ee78feef94c059605d23aec2c87f1bab461e0852aa9cfd045d65394f15581e", func := "example.com/atomkeep/atomkeep/zzlaws_root_b1.FnSnapshotRecordSizeAndFreshMemory", spec := "fnSnapshotRecordSizeAndFreshMemory", apart := false }
def FnSnapshotRecordSizeAndFreshMemorySaid : Prop := fnSnapshotRecordSizeAndFreshMemoryRow.holds Try.pinned (OpenSpec.ofChange fnSnapshotRecordSizeAndFreshMemorySpec)

/-- ITS FALSE NEIGHBOUR: 'it returns false'. Refute it at one input. -/
def fnSnapshotRecordSizeAndFreshMemoryWrong : ChangeSpec := { name := "fnSnapshotRecordSizeAndFreshMemory", fn := fun _ => fun
  | [d1, d2, d3] => { results := [.lit (.bool false)], args := [d1, d2, d3] }
  | _ => none }
def FnSnapshotRecordSizeAndFreshMemoryWrongFalsely : Prop := fnSnapshotRecordSizeAndFreshMemoryRow.holds Try.pinned (OpenSpec.ofChange fnSnapshotRecordSizeAndFreshMemoryWrong)

end Rows
end Go.Proofs.Qxb6604357a
