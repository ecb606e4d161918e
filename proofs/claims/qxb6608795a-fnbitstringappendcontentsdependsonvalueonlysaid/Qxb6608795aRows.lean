/-
  No cell of these rows narrows 'for every input' (looked for: loops, veiled, ifaces, maps, wideKeys, modest, calm, conditions, laid).
  DERIVED. THE GIVEN ROWS OF THIS SEAT. 2 by the template 'for every input the law returns true; each argument reads behind the call as it read before'; 0 by the template 'total and deterministic' (their statements: Qxb6608795aTotals.lean).
  GIVEN WITH THE SEED: the statements are not yours to turn. If you find one false, say at which input.
  Laid BY PROGRAM, IN A SANDBOX (cutbox-rows.mjs): the forced cells as the released guide's own fill.sh prints them over the translation 8bedd9f88080a35b… (all of the seat's roots in one cut). By AI agents, Wed Nov 11 2026. No macro, syntax, notation, axiom, sorry.
-/
import Derived.Test.Qxb6608795aChecked
import GoSem.Claim
import GoSem.ClaimJoined
import GoSem.ClaimMapViews
import Derived.JoinedTies
import Derived.KernelRfl
namespace Go.Proofs.Qxb6608795a
/- THE CELL 'sum', in the pinned program and in every row, IS THE sha256 OF THE DUMP (.gsa) THAT Qxb6608795aProg.lean LOADS. Nothing in Lean hashes anything: it is a label: what it is worth is what the hold of that sum in a sandbox is worth. -/
noncomputable def Try.pinned : Pinned := { name := "qxb6608795a", sum := "8bedd9f88080a35bfcac2e34bb90caee808ab73edca186b18c525c04d8d04c08", checked := Try.checked }
namespace Rows
def none {H : Type} : Left H := { results := [], args := [] }

/-- 'zzlaws_root_b1.FnBitStringAppendContentsBitByBit': WHATEVER THE INPUT: true; the input reads as it did. -/
def fnBitStringAppendContentsBitByBitSpec : ChangeSpec := { name := "fnBitStringAppendContentsBitByBit", fn := fun _ => fun
  | [d1, d2, d3] => { results := [.lit (.bool true)], args := [d1, d2, d3] }
  | _ => none }
def fnBitStringAppendContentsBitByBitRow : OpenClaim := { program := "qxb6608795a", sum := "8bedd9f88080a35bfcac2e34bb90caee808ab73edca186b18c525c04d8d04c08", func := "example.com/tagwise/tagwise/zzlaws_root_b1.FnBitStringAppendContentsBitByBit", spec := "fnBitStringAppendContentsBitByBit", apart := false }
def FnBitStringAppendContentsBitByBitSaid : Prop := fnBitStringAppendContentsBitByBitRow.holds Try.pinned (OpenSpec.ofChange fnBitStringAppendContentsBitByBitSpec)

/-- ITS FALSE NEIGHBOUR: 'it returns false'. Refute it at one input. -/
def fnBitStringAppendContentsBitByBitWrong : ChangeSpec := { name := "fnBitStringAppendContentsBitByBit", fn := fun _ => fun
  | [d1, d2, d3] => { results := [.lit (.bool false)], args := [d1, d2, d3] }
  | _ => none }
def FnBitStringAppendContentsBitByBitWrongFalsely : Prop := fnBitStringAppendContentsBitByBitRow.holds Try.pinned (OpenSpec.ofChange fnBitStringAppendContentsBitByBitWrong)

/-- 'zzlaws_root_b1.FnBitStringAppendContentsDependsOnValueOnly': WHATEVER THE INPUT: true; the input reads as it did. -/
def fnBitStringAppendContentsDependsOnValueOnlySpec : ChangeSpec := { name := "fnBitStringAppendContentsDependsOnValueOnly", fn := fun _ => fun
  | [d1, d2, d3, d4, d5] => { results := [.lit (.bool true)], args := [d1, d2, d3, d4, d5] }
  | _ => none }
def fnBitStringAppendContentsDependsOnValueOnlyRow : OpenClaim := { program := "qxb6608795a", sum := "8bedd9f88080a35bfcac2e34bb90caee808ab73edca186b18c525c04d8d04c08", func := "example.com/tagwise/tagwise/zzlaws_root_b1.FnBitStringAppendContentsDependsOnValueOnly", spec := "fnBitStringAppendContentsDependsOnValueOnly", apart := false }
def FnBitStringAppendContentsDependsOnValueOnlySaid : Prop := fnBitStringAppendContentsDependsOnValueOnlyRow.holds Try.pinned (OpenSpec.ofChange fnBitStringAppendContentsDependsOnValueOnlySpec)

/-- ITS FALSE NEIGHBOUR: 'it returns false'. Refute it at one input. -/
def fnBitStringAppendContentsDependsOnValueOnlyWrong : ChangeSpec := { name := "fnBitStringAppendContentsDependsOnValueOnly", fn := fun _ => fun
  | [d1, d2, d3, d4, d5] => { results := [.lit (.bool false)], args := [d1, d2, d3, d4, d5] }
  | _ => none }
def FnBitStringAppendContentsDependsOnValueOnlyWrongFalsely : Prop := fnBitStringAppendContentsDependsOnValueOnlyRow.holds Try.pinned (OpenSpec.ofChange fnBitStringAppendContentsDependsOnValueOnlyWrong)

end Rows
end Go.Proofs.Qxb6608795a
