/-
  No cell of these rows narrows 'for every input' (looked for: loops, veiled, ifaces, maps, wideKeys, modest, calm, conditions, laid).
  DERIVED. THE GIVEN ROWS OF THIS SEAT. 2 by the template 'for every input the law returns true; each argument reads behind the call as it read before'; 0 by the template 'total and deterministic' (their statements: Qxb6628534aFmtTotals.lean).
  GIVEN WITH THE SEED: the statements are not yours to turn. If you find one false, say at which input.
  Laid BY PROGRAM, IN A SANDBOX (cutbox-rows.mjs): the forced cells as the released guide's own fill.sh prints them over the translation f38f0220566a3b3e… (all of the seat's roots in one cut). By AI agents, Wed Nov 11 2026. No macro, syntax, notation, axiom, sorry.
-/
import Derived.Test.Qxb6628534aFmtChecked
import GoSem.Claim
import GoSem.ClaimJoined
import GoSem.ClaimMapViews
import Derived.JoinedTies
import Derived.KernelRfl
namespace Go.Proofs.Qxb6628534aFmt
/- THE CELL 'sum', in the pinned program and in every row, IS THE sha256 OF THE DUMP (.gsa) THAT Qxb6628534aFmtProg.lean LOADS. Nothing in Lean hashes anything: it is a label: what it is worth is what the hold of that sum in a sandbox is worth. -/
noncomputable def Tryf.pinned : Pinned := { name := "qxb6628534afmt", sum := "f38f0220566a3b3ea1c9c7ceb69af5eba85876b1f1ccedcc2af5ac4c7dc51cd9", checked := Tryf.checked }
namespace Rows
def none {H : Type} : Left H := { results := [], args := [] }

/-- 'zzlaws_internal_wire_b1.FnTypeStringInjectiveOnKnown': WHATEVER THE INPUT: true; the input reads as it did. -/
def fnTypeStringInjectiveOnKnownSpec : ChangeSpec := { name := "fnTypeStringInjectiveOnKnown", fn := fun _ => fun
  | [d1, d2] => { results := [.lit (.bool true)], args := [d1, d2] }
  | _ => none }
def fnTypeStringInjectiveOnKnownRow : OpenClaim := { program := "qxb6628534afmt", sum := "f38f0220566a3b3ea1c9c7ceb69af5eba85876b1f1ccedcc2af5ac4c7dc51cd9", func := "example.com/tidelog/tidelog/zzlaws_internal_wire_b1.FnTypeStringInjectiveOnKnown", spec := "fnTypeStringInjectiveOnKnown", stops := ["fmt.Sprintf"], inPlace := ["fmt.Sprintf"], apart := false }
/-- NO THEOREM (fmt's text is open here; it may be false): for the released tool's asking of the row's closed facts alone. THE STATEMENT IS 'FnTypeStringInjectiveOnKnownToldSaid' (Qxb6628534aFmtCards.lean). -/
def FnTypeStringInjectiveOnKnownFormAsk : Prop := fnTypeStringInjectiveOnKnownRow.holds Tryf.pinned (OpenSpec.ofChange fnTypeStringInjectiveOnKnownSpec)

/-- ITS FALSE NEIGHBOUR: 'it returns false'. Refute it at one input. -/
def fnTypeStringInjectiveOnKnownWrong : ChangeSpec := { name := "fnTypeStringInjectiveOnKnown", fn := fun _ => fun
  | [d1, d2] => { results := [.lit (.bool false)], args := [d1, d2] }
  | _ => none }
def FnTypeStringInjectiveOnKnownWrongFormAsk : Prop := fnTypeStringInjectiveOnKnownRow.holds Tryf.pinned (OpenSpec.ofChange fnTypeStringInjectiveOnKnownWrong)

/-- 'zzlaws_internal_wire_b1.FnTypeStringPrefixFree': WHATEVER THE INPUT: true; the input reads as it did. -/
def fnTypeStringPrefixFreeSpec : ChangeSpec := { name := "fnTypeStringPrefixFree", fn := fun _ => fun
  | [d1, d2] => { results := [.lit (.bool true)], args := [d1, d2] }
  | _ => none }
def fnTypeStringPrefixFreeRow : OpenClaim := { program := "qxb6628534afmt", sum := "f38f0220566a3b3ea1c9c7ceb69af5eba85876b1f1ccedcc2af5ac4c7dc51cd9", func := "example.com/tidelog/tidelog/zzlaws_internal_wire_b1.FnTypeStringPrefixFree", spec := "fnTypeStringPrefixFree", stops := ["fmt.Sprintf"], inPlace := ["fmt.Sprintf"], apart := false }
/-- NO THEOREM (fmt's text is open here; it may be false): for the released tool's asking of the row's closed facts alone. THE STATEMENT IS 'FnTypeStringPrefixFreeToldSaid' (Qxb6628534aFmtCards.lean). -/
def FnTypeStringPrefixFreeFormAsk : Prop := fnTypeStringPrefixFreeRow.holds Tryf.pinned (OpenSpec.ofChange fnTypeStringPrefixFreeSpec)

/-- ITS FALSE NEIGHBOUR: 'it returns false'. Refute it at one input. -/
def fnTypeStringPrefixFreeWrong : ChangeSpec := { name := "fnTypeStringPrefixFree", fn := fun _ => fun
  | [d1, d2] => { results := [.lit (.bool false)], args := [d1, d2] }
  | _ => none }
def FnTypeStringPrefixFreeWrongFormAsk : Prop := fnTypeStringPrefixFreeRow.holds Tryf.pinned (OpenSpec.ofChange fnTypeStringPrefixFreeWrong)

end Rows
end Go.Proofs.Qxb6628534aFmt
