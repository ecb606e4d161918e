/-
  DERIVED. GIVEN WITH THE SEED: THE CARDS: each row of Qxb6608797aFmtRows.lean that lists a variable, with what it lists TIED to the program's text (the seventh form; the later family's looks); each row that meets fmt, with fmt's text TOLD by the authors' own Lean function (tested against real Go, not proved from fmt's source: count such statements apart). THE CARD IS WHAT COUNTS. Prove the row's statement (the work); the ties are given (Qxb6608797aFmtTie.lean); close each card by the builder's one call (the guide's Derived/Test/ToyasCard.lean, 'card_holds'). Laid BY PROGRAM, IN A SANDBOX (cutbox-door.mjs). By AI agents, Wed Nov 11 2026. No macro, syntax, notation, axiom, sorry.
-/
import Derived.Test.Qxb6608797aFmtRows
import GoSem.ClaimSeven
namespace Go.Proofs.Qxb6608797aFmt
namespace Rows

/-- THE TOLD AND TIED CARD OF 'zzlaws_internal_transport_b1.FnIDStringParseIDRoundTrip'. -/
def fnIDStringParseIDRoundTripCard : Claim7 := { stood := { row := fnIDStringParseIDRoundTripRow, standIns := [], harness := (true, "51d25f7fd27ad8ebedac1c8951b9e95862f6612a8b7f0d6509e836e90135df24"), looks := false }, told := true, laidByText := true, laidKinds := [.sentinel], laidTests := true, laidLooks := .later, goes := false }
def FnIDStringParseIDRoundTripToldSaid : Prop := Claim7.holds Tryf.pinned (.plain (OpenSpec.ofChange fnIDStringParseIDRoundTripSpec)) fnIDStringParseIDRoundTripCard
/-- ITS FALSE NEIGHBOUR. Refute it at one input. -/
def FnIDStringParseIDRoundTripToldWrongFalsely : Prop := Claim7.holds Tryf.pinned (.plain (OpenSpec.ofChange fnIDStringParseIDRoundTripWrong)) fnIDStringParseIDRoundTripCard

/-- THE TOLD AND TIED CARD OF 'zzlaws_internal_transport_b1.FnParseIDAcceptsAnyMixOfCase'. -/
def fnParseIDAcceptsAnyMixOfCaseCard : Claim7 := { stood := { row := fnParseIDAcceptsAnyMixOfCaseRow, standIns := [], harness := (true, "51d25f7fd27ad8ebedac1c8951b9e95862f6612a8b7f0d6509e836e90135df24"), looks := false }, told := true, laidByText := true, laidKinds := [.sentinel], laidTests := true, laidLooks := .later, goes := false }
def FnParseIDAcceptsAnyMixOfCaseToldSaid : Prop := Claim7.holds Tryf.pinned (.plain (OpenSpec.ofChange fnParseIDAcceptsAnyMixOfCaseSpec)) fnParseIDAcceptsAnyMixOfCaseCard
/-- ITS FALSE NEIGHBOUR. Refute it at one input. -/
def FnParseIDAcceptsAnyMixOfCaseToldWrongFalsely : Prop := Claim7.holds Tryf.pinned (.plain (OpenSpec.ofChange fnParseIDAcceptsAnyMixOfCaseWrong)) fnParseIDAcceptsAnyMixOfCaseCard
end Rows
end Go.Proofs.Qxb6608797aFmt
