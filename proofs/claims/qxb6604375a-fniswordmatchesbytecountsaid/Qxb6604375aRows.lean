/-
  No cell of these rows narrows 'for every input' (looked for: loops, veiled, ifaces, maps, wideKeys, modest, calm, conditions, laid).
  DERIVED. THE GIVEN ROWS OF THIS SEAT. 2 by the template 'for every input the law returns true; each argument reads behind the call as it read before'; 0 by the template 'total and deterministic' (their statements: Qxb6604375aTotals.lean).
  GIVEN WITH THE SEED: the statements are not yours to turn. If you find one false, say at which input.
  Laid BY PROGRAM, IN A SANDBOX (cutbox-rows.mjs): the forced cells as the released guide's own fill.sh prints them over the translation 47e215d1dc0163f2… (all of the seat's roots in one cut). By AI agents, Wed Nov 11 2026. No macro, syntax, notation, axiom, sorry.
-/
import Derived.Test.Qxb6604375aChecked
import GoSem.Claim
import GoSem.ClaimJoined
import GoSem.ClaimMapViews
import Derived.JoinedTies
import Derived.KernelRfl
namespace Go.Proofs.Qxb6604375a
/- THE CELL 'sum', in the pinned program and in every row, IS THE sha256 OF THE DUMP (.gsa) THAT Qxb6604375aProg.lean LOADS. Nothing in Lean hashes anything: it is a label: what it is worth is what the hold of that sum in a sandbox is worth. -/
noncomputable def Try.pinned : Pinned := { name := "qxb6604375a", sum := "47e215d1dc0163f2bb1697862961b0aeabe1f4177366ceaf0ed65dff7cbf7f4a", checked := Try.checked }
namespace Rows
def none {H : Type} : Left H := { results := [], args := [] }

/-- 'zzlaws_internal_rules_b1.FnIsWordMatchesByteCount': WHATEVER THE INPUT: true; the input reads as it did. -/
def fnIsWordMatchesByteCountSpec : ChangeSpec := { name := "fnIsWordMatchesByteCount", fn := fun _ => fun
  | [d1, d2] => { results := [.lit (.bool true)], args := [d1, d2] }
  | _ => none }
def fnIsWordMatchesByteCountRow : OpenClaim := { program := "qxb6604375a", sum := "47e215d1dc0163f2bb1697862961b0aeabe1f4177366ceaf0ed65dff7cbf7f4a", func := "example.com/sluicegate/sluicegate/zzlaws_internal_rules_b1.FnIsWordMatchesByteCount", spec := "fnIsWordMatchesByteCount", apart := false }
def FnIsWordMatchesByteCountSaid : Prop := fnIsWordMatchesByteCountRow.holds Try.pinned (OpenSpec.ofChange fnIsWordMatchesByteCountSpec)

/-- ITS FALSE NEIGHBOUR: 'it returns false'. Refute it at one input. -/
def fnIsWordMatchesByteCountWrong : ChangeSpec := { name := "fnIsWordMatchesByteCount", fn := fun _ => fun
  | [d1, d2] => { results := [.lit (.bool false)], args := [d1, d2] }
  | _ => none }
def FnIsWordMatchesByteCountWrongFalsely : Prop := fnIsWordMatchesByteCountRow.holds Try.pinned (OpenSpec.ofChange fnIsWordMatchesByteCountWrong)

/-- 'zzlaws_internal_rules_b1.FnIsWordLongestWordPrefix': WHATEVER THE INPUT: true; the input reads as it did. -/
def fnIsWordLongestWordPrefixSpec : ChangeSpec := { name := "fnIsWordLongestWordPrefix", fn := fun _ => fun
  | [d1, d2] => { results := [.lit (.bool true)], args := [d1, d2] }
  | _ => none }
def fnIsWordLongestWordPrefixRow : OpenClaim := { program := "qxb6604375a", sum := "47e215d1dc0163f2bb1697862961b0aeabe1f4177366ceaf0ed65dff7cbf7f4a", func := "example.com/sluicegate/sluicegate/zzlaws_internal_rules_b1.FnIsWordLongestWordPrefix", spec := "fnIsWordLongestWordPrefix", apart := false }
def FnIsWordLongestWordPrefixSaid : Prop := fnIsWordLongestWordPrefixRow.holds Try.pinned (OpenSpec.ofChange fnIsWordLongestWordPrefixSpec)

/-- ITS FALSE NEIGHBOUR: 'it returns false'. Refute it at one input. -/
def fnIsWordLongestWordPrefixWrong : ChangeSpec := { name := "fnIsWordLongestWordPrefix", fn := fun _ => fun
  | [d1, d2] => { results := [.lit (.bool false)], args := [d1, d2] }
  | _ => none }
def FnIsWordLongestWordPrefixWrongFalsely : Prop := fnIsWordLongestWordPrefixRow.holds Try.pinned (OpenSpec.ofChange fnIsWordLongestWordPrefixWrong)

end Rows
end Go.Proofs.Qxb6604375a
