/-
  DERIVED. GIVEN WITH THE SEED: THE CARDS: each row of Qxb6628534aFmtRows.lean that lists a variable, with what it lists TIED to the program's text (the seventh form; the later family's looks); each row that meets fmt, with fmt's text TOLD by the authors' own Lean function (tested against real Go, not proved from fmt's source: count such statements apart). THE CARD IS WHAT COUNTS. Prove the row's statement (the work); the ties are given (Qxb6628534aFmtTie.lean); close each card by the builder's one call (the guide's Derived/Test/ToyasCard.lean, 'card_holds'). Laid BY PROGRAM, IN A SANDBOX (cutbox-door.mjs). By AI agents, Wed Nov 11 2026. No macro, syntax, notation, axiom, sorry.
-/
import Derived.Test.Qxb6628534aFmtRows
import GoSem.ClaimSeven
namespace Go.Proofs.Qxb6628534aFmt
namespace Rows

/-- THE TOLD CARD OF 'zzlaws_internal_wire_b1.FnTypeStringInjectiveOnKnown'. -/
def fnTypeStringInjectiveOnKnownCard : Claim7 := { stood := { row := fnTypeStringInjectiveOnKnownRow, standIns := [], harness := (true, "07e3c476f3224b5afb4568b80dd45b84dcf4396edb9a96ec816c5b54d0f0d18c"), looks := false }, told := true, goes := false }
def FnTypeStringInjectiveOnKnownToldSaid : Prop := Claim7.holds Tryf.pinned (.plain (OpenSpec.ofChange fnTypeStringInjectiveOnKnownSpec)) fnTypeStringInjectiveOnKnownCard
/-- ITS FALSE NEIGHBOUR. Refute it at one input. -/
def FnTypeStringInjectiveOnKnownToldWrongFalsely : Prop := Claim7.holds Tryf.pinned (.plain (OpenSpec.ofChange fnTypeStringInjectiveOnKnownWrong)) fnTypeStringInjectiveOnKnownCard

/-- THE TOLD CARD OF 'zzlaws_internal_wire_b1.FnTypeStringPrefixFree'. -/
def fnTypeStringPrefixFreeCard : Claim7 := { stood := { row := fnTypeStringPrefixFreeRow, standIns := [], harness := (true, "07e3c476f3224b5afb4568b80dd45b84dcf4396edb9a96ec816c5b54d0f0d18c"), looks := false }, told := true, goes := false }
def FnTypeStringPrefixFreeToldSaid : Prop := Claim7.holds Tryf.pinned (.plain (OpenSpec.ofChange fnTypeStringPrefixFreeSpec)) fnTypeStringPrefixFreeCard
/-- ITS FALSE NEIGHBOUR. Refute it at one input. -/
def FnTypeStringPrefixFreeToldWrongFalsely : Prop := Claim7.holds Tryf.pinned (.plain (OpenSpec.ofChange fnTypeStringPrefixFreeWrong)) fnTypeStringPrefixFreeCard
end Rows
end Go.Proofs.Qxb6628534aFmt
