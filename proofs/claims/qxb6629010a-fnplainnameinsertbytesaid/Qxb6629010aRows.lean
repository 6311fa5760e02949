/-
  No cell of these rows narrows 'for every input' (looked for: loops, veiled, ifaces, maps, wideKeys, modest, calm, conditions, laid).
  DERIVED. THE GIVEN ROWS OF THIS SEAT. 2 by the template 'for every input the law returns true; each argument reads behind the call as it read before'; 0 by the template 'total and deterministic' (their statements: Qxb6629010aTotals.lean).
  GIVEN WITH THE SEED: the statements are not yours to turn. If you find one false, say at which input.
  Laid BY PROGRAM, IN A SANDBOX (cutbox-rows.mjs): the forced cells as the released guide's own fill.sh prints them over the translation ab5ac6c3fcda98bc… (all of the seat's roots in one cut). By AI agents, Wed Nov 11 2026. No macro, syntax, notation, axiom, sorry.
-/
import Derived.Test.Qxb6629010aChecked
import GoSem.Claim
import GoSem.ClaimJoined
import GoSem.ClaimMapViews
import Derived.JoinedTies
import Derived.KernelRfl
namespace Go.Proofs.Qxb6629010a
/- THE CELL 'sum', in the pinned program and in every row, IS THE sha256 OF THE DUMP (.gsa) THAT Qxb6629010aProg.lean LOADS. Nothing in Lean hashes anything: it is a label: what it is worth is what the hold of that sum in a sandbox is worth. -/
noncomputable def Try.pinned : Pinned := { name := "qxb6629010a", sum := "ab5ac6c3fcda98bc79581f98caa8afd02271901869d01dda635e28132c0b157c", checked := Try.checked }
namespace Rows
def none {H : Type} : Left H := { results := [], args := [] }

/-- 'zzlaws_internal_metainfo_b1.FnPlainNameJoin': WHATEVER THE INPUT: true; the input reads as it did. -/
def fnPlainNameJoinSpec : ChangeSpec := { name := "fnPlainNameJoin", fn := fun _ => fun
  | [d1, d2] => { results := [.lit (.bool true)], args := [d1, d2] }
  | _ => none }
def fnPlainNameJoinRow : OpenClaim := { program := "qxb6629010a", sum := "ab5ac6c3fcda98bc79581f98caa8afd02271901869d01dda635e28132c0b157c", func := "example.com/shoalnet/shoalnet/zzlaws_internal_metainfo_b1.FnPlainNameJoin", spec := "fnPlainNameJoin", apart := false }
def FnPlainNameJoinSaid : Prop := fnPlainNameJoinRow.holds Try.pinned (OpenSpec.ofChange fnPlainNameJoinSpec)

/-- ITS FALSE NEIGHBOUR: 'it returns false'. Refute it at one input. -/
def fnPlainNameJoinWrong : ChangeSpec := { name := "fnPlainNameJoin", fn := fun _ => fun
  | [d1, d2] => { results := [.lit (.bool false)], args := [d1, d2] }
  | _ => none }
def FnPlainNameJoinWrongFalsely : Prop := fnPlainNameJoinRow.holds Try.pinned (OpenSpec.ofChange fnPlainNameJoinWrong)

/-- 'zzlaws_internal_metainfo_b1.FnPlainNameInsertByte': WHATEVER THE INPUT: true; the input reads as it did. -/
def fnPlainNameInsertByteSpec : ChangeSpec := { name := "fnPlainNameInsertByte", fn := fun _ => fun
  | [d1, d2, d3] => { results := [.lit (.bool true)], args := [d1, d2, d3] }
  | _ => none }
def fnPlainNameInsertByteRow : OpenClaim := { program := "qxb6629010a", sum := "ab5ac6c3fcda98bc79581f98caa8afd02271901869d01dda635e28132c0b157c", func := "example.com/shoalnet/shoalnet/zzlaws_internal_metainfo_b1.FnPlainNameInsertByte", spec := "fnPlainNameInsertByte", apart := false }
def FnPlainNameInsertByteSaid : Prop := fnPlainNameInsertByteRow.holds Try.pinned (OpenSpec.ofChange fnPlainNameInsertByteSpec)

/-- ITS FALSE NEIGHBOUR: 'it returns false'. Refute it at one input. -/
def fnPlainNameInsertByteWrong : ChangeSpec := { name := "fnPlainNameInsertByte", fn := fun _ => fun
  | [d1, d2, d3] => { results := [.lit (.bool false)], args := [d1, d2, d3] }
  | _ => none }
def FnPlainNameInsertByteWrongFalsely : Prop := fnPlainNameInsertByteRow.holds Try.pinned (OpenSpec.ofChange fnPlainNameInsertByteWrong)

end Rows
end Go.Proofs.Qxb6629010a
