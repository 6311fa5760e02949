/-
  No cell of these rows narrows 'for every input' (looked for: loops, veiled, ifaces, maps, wideKeys, modest, calm, conditions, laid).
  DERIVED. THE GIVEN ROWS OF THIS SEAT. 2 by the template 'for every input the law returns true; each argument reads behind the call as it read before'; 0 by the template 'total and deterministic' (their statements: Qxb6629085aTotals.lean).
  GIVEN WITH THE SEED: the statements are not yours to turn. If you find one false, say at which input.
  Laid BY PROGRAM, IN A SANDBOX (cutbox-rows.mjs): the forced cells as the released guide's own fill.sh prints them over the translation 6bfc47e0be990b0e… (all of the seat's roots in one cut). By AI agents, Wed Nov 11 2026. No macro, syntax, notation, axiom, sorry.
-/
import Derived.Test.Qxb6629085aChecked
import GoSem.Claim
import GoSem.ClaimJoined
import GoSem.ClaimMapViews
import Derived.JoinedTies
import Derived.KernelRfl
namespace Go.Proofs.Qxb6629085a
/- THE CELL 'sum', in the pinned program and in every row, IS THE sha256 OF THE DUMP (.gsa) THAT Qxb6629085aProg.lean LOADS. Nothing in Lean hashes anything: it is a label: what it is worth is what the hold of that sum in a sandbox is worth. -/
noncomputable def Try.pinned : Pinned := { name := "qxb6629085a", sum := "6bfc47e0be990b0e2c093082b6430c2276050f04061ad886b58bc26b2ead6c42", checked := Try.checked }
namespace Rows
def none {H : Type} : Left H := { results := [], args := [] }

/-- 'zzlaws_internal_cluster_b1.FnMissingPartitionsList': WHATEVER THE INPUT: true; the input reads as it did. -/
def fnMissingPartitionsListSpec : ChangeSpec := { name := "fnMissingPartitionsList", fn := fun _ => fun
  | [d1, d2, d3, d4] => { results := [.lit (.bool true)], args := [d1, d2, d3, d4] }
  | _ => none }
def fnMissingPartitionsListRow : OpenClaim := { program := "qxb6629085a", sum := "6bfc47e0be990b0e2c093082b6430c2276050f04061ad886b58bc26b2ead6c42", func := "example.com/bakerlock/bakerlock/zzlaws_internal_cluster_b1.FnMissingPartitionsList", spec := "fnMissingPartitionsList", apart := false }
def FnMissingPartitionsListSaid : Prop := fnMissingPartitionsListRow.holds Try.pinned (OpenSpec.ofChange fnMissingPartitionsListSpec)

/-- ITS FALSE NEIGHBOUR: 'it returns false'. Refute it at one input. -/
def fnMissingPartitionsListWrong : ChangeSpec := { name := "fnMissingPartitionsList", fn := fun _ => fun
  | [d1, d2, d3, d4] => { results := [.lit (.bool false)], args := [d1, d2, d3, d4] }
  | _ => none }
def FnMissingPartitionsListWrongFalsely : Prop := fnMissingPartitionsListRow.holds Try.pinned (OpenSpec.ofChange fnMissingPartitionsListWrong)

/-- 'zzlaws_internal_cluster_b1.FnMissingOthersSplitComposes': WHATEVER THE INPUT: true; the input reads as it did. -/
def fnMissingOthersSplitComposesSpec : ChangeSpec := { name := "fnMissingOthersSplitComposes", fn := fun _ => fun
  | [d1, d2, d3, d4, d5] => { results := [.lit (.bool true)], args := [d1, d2, d3, d4, d5] }
  | _ => none }
def fnMissingOthersSplitComposesRow : OpenClaim := { program := "qxb6629085a", sum := "6bfc47e0be990b0e2c093082b6430c2276050f04061ad886b58bc26b2ead6c42", func := "example.com/bakerlock/bakerlock/zzlaws_internal_cluster_b1.FnMissingOthersSplitComposes", spec := "fnMissingOthersSplitComposes", apart := false }
def FnMissingOthersSplitComposesSaid : Prop := fnMissingOthersSplitComposesRow.holds Try.pinned (OpenSpec.ofChange fnMissingOthersSplitComposesSpec)

/-- ITS FALSE NEIGHBOUR: 'it returns false'. Refute it at one input. -/
def fnMissingOthersSplitComposesWrong : ChangeSpec := { name := "fnMissingOthersSplitComposes", fn := fun _ => fun
  | [d1, d2, d3, d4, d5] => { results := [.lit (.bool false)], args := [d1, d2, d3, d4, d5] }
  | _ => none }
def FnMissingOthersSplitComposesWrongFalsely : Prop := fnMissingOthersSplitComposesRow.holds Try.pinned (OpenSpec.ofChange fnMissingOthersSplitComposesWrong)

end Rows
end Go.Proofs.Qxb6629085a
