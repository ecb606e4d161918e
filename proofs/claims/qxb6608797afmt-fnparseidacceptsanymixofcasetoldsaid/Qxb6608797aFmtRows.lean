/-
  NARROWER THAN 'FOR EVERY INPUT', by the rows' own cells (each row's printed sentence says how): FnIDStringParseIDRoundTrip: laid · FnParseIDAcceptsAnyMixOfCase: laid.
  DERIVED. THE GIVEN ROWS OF THIS SEAT. 2 by the template 'for every input the law returns true; each argument reads behind the call as it read before'; 0 by the template 'total and deterministic' (their statements: Qxb6608797aFmtTotals.lean).
  GIVEN WITH THE SEED: the statements are not yours to turn. If you find one false, say at which input.
  Laid BY PROGRAM, IN A SANDBOX (cutbox-rows.mjs): the forced cells as the released guide's own fill.sh prints them over the translation 138c338ecc0f8731… (all of the seat's roots in one cut). By AI agents, Wed Nov 11 2026. No macro, syntax, notation, axiom, sorry.
-/
import Derived.Test.Qxb6608797aFmtChecked
import GoSem.Claim
import GoSem.ClaimJoined
import GoSem.ClaimMapViews
import Derived.JoinedTies
import Derived.KernelRfl
namespace Go.Proofs.Qxb6608797aFmt
/- THE CELL 'sum', in the pinned program and in every row, IS THE sha256 OF THE DUMP (.gsa) THAT Qxb6608797aFmtProg.lean LOADS. Nothing in Lean hashes anything: it is a label: what it is worth is what the hold of that sum in a sandbox is worth. -/
noncomputable def Tryf.pinned : Pinned := { name := "qxb6608797afmt", sum := "138c338ecc0f8731beccdc68dabeeb0bcd069f18d8d2e02fe8b57b8bc06672db", checked := Tryf.checked }
namespace Rows
def none {H : Type} : Left H := { results := [], args := [] }

/- WHAT THE LISTED PACKAGE-LEVEL VARIABLES READ AS WHEN THE CALL BEGINS. Each datum BY PROGRAM (the guide's laid-datum.mjs) off the statement by which the dump's own 'gosem.cut.vars' lays the variable. In a bare row this is a premise. The card (Qxb6608797aFmtCards.lean) ties it to the program's text. -/
def laid_encoding_hex_ErrLength {H : Type} : DataW H := .iface "*errors.errorString" (.ptr (.agg [.lit (.string [101, 110, 99, 111, 100, 105, 110, 103, 47, 104, 101, 120, 58, 32, 111, 100, 100, 32, 108, 101, 110, 103, 116, 104, 32, 104, 101, 120, 32, 115, 116, 114, 105, 110, 103])]))

/-- 'zzlaws_internal_transport_b1.FnIDStringParseIDRoundTrip': WHATEVER THE INPUT: true; the input reads as it did. -/
def fnIDStringParseIDRoundTripSpec : ChangeSpec := { name := "fnIDStringParseIDRoundTrip", fn := fun _ => fun
  | [d] => { results := [.lit (.bool true)], args := [d] }
  | _ => none }
def fnIDStringParseIDRoundTripRow : OpenClaim := { program := "qxb6608797afmt", sum := "138c338ecc0f8731beccdc68dabeeb0bcd069f18d8d2e02fe8b57b8bc06672db", func := "example.com/hopwire/hopwire/zzlaws_internal_transport_b1.FnIDStringParseIDRoundTrip", spec := "fnIDStringParseIDRoundTrip", stops := ["fmt.errorf"], inPlace := ["fmt.errorf"], named := ["encoding/hex.ErrLength"], apart := false, laid := [("encoding/hex.ErrLength", laid_encoding_hex_ErrLength)] }
/-- NO THEOREM (fmt's text is open here; it may be false): for the released tool's asking of the row's closed facts alone. THE STATEMENT IS 'FnIDStringParseIDRoundTripToldSaid' (Qxb6608797aFmtCards.lean). -/
def FnIDStringParseIDRoundTripFormAsk : Prop := fnIDStringParseIDRoundTripRow.holds Tryf.pinned (OpenSpec.ofChange fnIDStringParseIDRoundTripSpec)

/-- ITS FALSE NEIGHBOUR: 'it returns false'. Refute it at one input. -/
def fnIDStringParseIDRoundTripWrong : ChangeSpec := { name := "fnIDStringParseIDRoundTrip", fn := fun _ => fun
  | [d] => { results := [.lit (.bool false)], args := [d] }
  | _ => none }
def FnIDStringParseIDRoundTripWrongFormAsk : Prop := fnIDStringParseIDRoundTripRow.holds Tryf.pinned (OpenSpec.ofChange fnIDStringParseIDRoundTripWrong)

/-- 'zzlaws_internal_transport_b1.FnParseIDAcceptsAnyMixOfCase': WHATEVER THE INPUT: true; the input reads as it did. -/
def fnParseIDAcceptsAnyMixOfCaseSpec : ChangeSpec := { name := "fnParseIDAcceptsAnyMixOfCase", fn := fun _ => fun
  | [d1, d2] => { results := [.lit (.bool true)], args := [d1, d2] }
  | _ => none }
def fnParseIDAcceptsAnyMixOfCaseRow : OpenClaim := { program := "qxb6608797afmt", sum := "138c338ecc0f8731beccdc68dabeeb0bcd069f18d8d2e02fe8b57b8bc06672db", func := "example.com/hopwire/hopwire/zzlaws_internal_transport_b1.FnParseIDAcceptsAnyMixOfCase", spec := "fnParseIDAcceptsAnyMixOfCase", stops := ["fmt.errorf"], inPlace := ["fmt.errorf"], named := ["encoding/hex.ErrLength"], apart := false, laid := [("encoding/hex.ErrLength", laid_encoding_hex_ErrLength)] }
/-- NO THEOREM (fmt's text is open here; it may be false): for the released tool's asking of the row's closed facts alone. THE STATEMENT IS 'FnParseIDAcceptsAnyMixOfCaseToldSaid' (Qxb6608797aFmtCards.lean). -/
def FnParseIDAcceptsAnyMixOfCaseFormAsk : Prop := fnParseIDAcceptsAnyMixOfCaseRow.holds Tryf.pinned (OpenSpec.ofChange fnParseIDAcceptsAnyMixOfCaseSpec)

/-- ITS FALSE NEIGHBOUR: 'it returns false'. Refute it at one input. -/
def fnParseIDAcceptsAnyMixOfCaseWrong : ChangeSpec := { name := "fnParseIDAcceptsAnyMixOfCase", fn := fun _ => fun
  | [d1, d2] => { results := [.lit (.bool false)], args := [d1, d2] }
  | _ => none }
def FnParseIDAcceptsAnyMixOfCaseWrongFormAsk : Prop := fnParseIDAcceptsAnyMixOfCaseRow.holds Tryf.pinned (OpenSpec.ofChange fnParseIDAcceptsAnyMixOfCaseWrong)

end Rows
end Go.Proofs.Qxb6608797aFmt
