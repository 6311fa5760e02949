/-
  No cell of these rows narrows 'for every input' (looked for: loops, veiled, ifaces, maps, wideKeys, modest, calm, conditions, laid).
  DERIVED. THE GIVEN ROWS OF THIS SEAT. 2 by the template 'for every input the law returns true; each argument reads behind the call as it read before'; 0 by the template 'total and deterministic' (their statements: Qxb6629043aTotals.lean).
  GIVEN WITH THE SEED: the statements are not yours to turn. If you find one false, say at which input.
  Laid BY PROGRAM, IN A SANDBOX (cutbox-rows.mjs): the forced cells as the released guide's own fill.sh prints them over the translation 66f1168e317b10f2… (all of the seat's roots in one cut). By AI agents, Wed Nov 11 2026. No macro, syntax, notation, axiom, sorry.
-/
import Derived.Test.Qxb6629043aChecked
import GoSem.Claim
import GoSem.ClaimJoined
import GoSem.ClaimMapViews
import Derived.JoinedTies
import Derived.KernelRfl
namespace Go.Proofs.Qxb6629043a
/- THE CELL 'sum', in the pinned program and in every row, IS THE sha256 OF THE DUMP (.gsa) THAT Qxb6629043aProg.lean LOADS. Nothing in Lean hashes anything: it is a label: what it is worth is what the hold of that sum in a sandbox is worth. -/
noncomputable def Try.pinned : Pinned := { name := "qxb6629043a", sum := "66f1168e317b10f2112ab7954576b473940f9a3661b75423fbdbc22a9e4379ff", checked := Try.checked }
namespace Rows
def none {H : Type} : Left H := { results := [], args := [] }

/-- 'zzlaws_pkg_omci_b1.FnInstancesAreSortedDistinctIdsOfClass': WHATEVER THE INPUT: true; the input reads as it did. -/
def fnInstancesAreSortedDistinctIdsOfClassSpec : ChangeSpec := { name := "fnInstancesAreSortedDistinctIdsOfClass", fn := fun _ => fun
  | [d1, d2, d3] => { results := [.lit (.bool true)], args := [d1, d2, d3] }
  | _ => none }
def fnInstancesAreSortedDistinctIdsOfClassRow : OpenClaim := { program := "qxb6629043a", sum := "66f1168e317b10f2112ab7954576b473940f9a3661b75423fbdbc22a9e4379ff", func := "example.com/lumenward/lumenward/zzlaws_pkg_omci_b1.FnInstancesAreSortedDistinctIdsOfClass", spec := "fnInstancesAreSortedDistinctIdsOfClass", recurses := true, plainKeys := false, apart := false }
def FnInstancesAreSortedDistinctIdsOfClassSaid : Prop := fnInstancesAreSortedDistinctIdsOfClassRow.holds Try.pinned (OpenSpec.ofChange fnInstancesAreSortedDistinctIdsOfClassSpec)

/-- ITS FALSE NEIGHBOUR: 'it returns false'. Refute it at one input. -/
def fnInstancesAreSortedDistinctIdsOfClassWrong : ChangeSpec := { name := "fnInstancesAreSortedDistinctIdsOfClass", fn := fun _ => fun
  | [d1, d2, d3] => { results := [.lit (.bool false)], args := [d1, d2, d3] }
  | _ => none }
def FnInstancesAreSortedDistinctIdsOfClassWrongFalsely : Prop := fnInstancesAreSortedDistinctIdsOfClassRow.holds Try.pinned (OpenSpec.ofChange fnInstancesAreSortedDistinctIdsOfClassWrong)

/-- 'zzlaws_pkg_omci_b1.FnInstancesAfterOneMorePutMergesItIn': WHATEVER THE INPUT: true; the input reads as it did. -/
def fnInstancesAfterOneMorePutMergesItInSpec : ChangeSpec := { name := "fnInstancesAfterOneMorePutMergesItIn", fn := fun _ => fun
  | [d1, d2, d3, d4, d5] => { results := [.lit (.bool true)], args := [d1, d2, d3, d4, d5] }
  | _ => none }
def fnInstancesAfterOneMorePutMergesItInRow : OpenClaim := { program := "qxb6629043a", sum := "66f1168e317b10f2112ab7954576b473940f9a3661b75423fbdbc22a9e4379ff", func := "example.com/lumenward/lumenward/zzlaws_pkg_omci_b1.FnInstancesAfterOneMorePutMergesItIn", spec := "fnInstancesAfterOneMorePutMergesItIn", recurses := true, plainKeys := false, apart := false }
def FnInstancesAfterOneMorePutMergesItInSaid : Prop := fnInstancesAfterOneMorePutMergesItInRow.holds Try.pinned (OpenSpec.ofChange fnInstancesAfterOneMorePutMergesItInSpec)

/-- ITS FALSE NEIGHBOUR: 'it returns false'. Refute it at one input. -/
def fnInstancesAfterOneMorePutMergesItInWrong : ChangeSpec := { name := "fnInstancesAfterOneMorePutMergesItIn", fn := fun _ => fun
  | [d1, d2, d3, d4, d5] => { results := [.lit (.bool false)], args := [d1, d2, d3, d4, d5] }
  | _ => none }
def FnInstancesAfterOneMorePutMergesItInWrongFalsely : Prop := fnInstancesAfterOneMorePutMergesItInRow.holds Try.pinned (OpenSpec.ofChange fnInstancesAfterOneMorePutMergesItInWrong)

end Rows
end Go.Proofs.Qxb6629043a
