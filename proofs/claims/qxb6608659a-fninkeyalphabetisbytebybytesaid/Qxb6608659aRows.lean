/-
  No cell of these rows narrows 'for every input' (looked for: loops, veiled, ifaces, maps, wideKeys, modest, calm, conditions, laid).
  DERIVED. THE GIVEN ROWS OF THIS SEAT. 2 by the template 'for every input the law returns true; each argument reads behind the call as it read before'; 0 by the template 'total and deterministic' (their statements: Qxb6608659aTotals.lean).
  GIVEN WITH THE SEED: the statements are not yours to turn. If you find one false, say at which input.
  Laid BY PROGRAM, IN A SANDBOX (cutbox-rows.mjs): the forced cells as the released guide's own fill.sh prints them over the translation 95b71329bf71b9bf… (all of the seat's roots in one cut). By AI agents, Wed Nov 11 2026. No macro, syntax, notation, axiom, sorry.
-/
import Derived.Test.Qxb6608659aChecked
import GoSem.Claim
import GoSem.ClaimJoined
import GoSem.ClaimMapViews
import Derived.JoinedTies
import Derived.KernelRfl
namespace Go.Proofs.Qxb6608659a
/- THE CELL 'sum', in the pinned program and in every row, IS THE sha256 OF THE DUMP (.gsa) THAT Qxb6608659aProg.lean LOADS. Nothing in Lean hashes anything: it is a label: what it is worth is what the hold of that sum in a sandbox is worth. -/
noncomputable def Try.pinned : Pinned := { name := "qxb6608659a", sum := "95b71329bf71b9bf933a33cf57cf511e726a73a4d973401c1869fa706bd59dd1", checked := Try.checked }
namespace Rows
def none {H : Type} : Left H := { results := [], args := [] }

/-- 'zzlaws_pkg_limiter_b1.FnInKeyAlphabetSplitsAtAnyCut': WHATEVER THE INPUT: true; the input reads as it did. -/
def fnInKeyAlphabetSplitsAtAnyCutSpec : ChangeSpec := { name := "fnInKeyAlphabetSplitsAtAnyCut", fn := fun _ => fun
  | [d1, d2, d3] => { results := [.lit (.bool true)], args := [d1, d2, d3] }
  | _ => none }
def fnInKeyAlphabetSplitsAtAnyCutRow : OpenClaim := { program := "qxb6608659a", sum := "95b71329bf71b9bf933a33cf57cf511e726a73a4d973401c1869fa706bd59dd1", func := "example.com/kiintio/kiintio/zzlaws_pkg_limiter_b1.FnInKeyAlphabetSplitsAtAnyCut", spec := "fnInKeyAlphabetSplitsAtAnyCut", apart := false }
def FnInKeyAlphabetSplitsAtAnyCutSaid : Prop := fnInKeyAlphabetSplitsAtAnyCutRow.holds Try.pinned (OpenSpec.ofChange fnInKeyAlphabetSplitsAtAnyCutSpec)

/-- ITS FALSE NEIGHBOUR: 'it returns false'. Refute it at one input. -/
def fnInKeyAlphabetSplitsAtAnyCutWrong : ChangeSpec := { name := "fnInKeyAlphabetSplitsAtAnyCut", fn := fun _ => fun
  | [d1, d2, d3] => { results := [.lit (.bool false)], args := [d1, d2, d3] }
  | _ => none }
def FnInKeyAlphabetSplitsAtAnyCutWrongFalsely : Prop := fnInKeyAlphabetSplitsAtAnyCutRow.holds Try.pinned (OpenSpec.ofChange fnInKeyAlphabetSplitsAtAnyCutWrong)

/-- 'zzlaws_pkg_limiter_b1.FnInKeyAlphabetIsByteByByte': WHATEVER THE INPUT: true; the input reads as it did. -/
def fnInKeyAlphabetIsByteByByteSpec : ChangeSpec := { name := "fnInKeyAlphabetIsByteByByte", fn := fun _ => fun
  | [d] => { results := [.lit (.bool true)], args := [d] }
  | _ => none }
def fnInKeyAlphabetIsByteByByteRow : OpenClaim := { program := "qxb6608659a", sum := "95b71329bf71b9bf933a33cf57cf511e726a73a4d973401c1869fa706bd59dd1", func := "example.com/kiintio/kiintio/zzlaws_pkg_limiter_b1.FnInKeyAlphabetIsByteByByte", spec := "fnInKeyAlphabetIsByteByByte", apart := false }
def FnInKeyAlphabetIsByteByByteSaid : Prop := fnInKeyAlphabetIsByteByByteRow.holds Try.pinned (OpenSpec.ofChange fnInKeyAlphabetIsByteByByteSpec)

/-- ITS FALSE NEIGHBOUR: 'it returns false'. Refute it at one input. -/
def fnInKeyAlphabetIsByteByByteWrong : ChangeSpec := { name := "fnInKeyAlphabetIsByteByByte", fn := fun _ => fun
  | [d] => { results := [.lit (.bool false)], args := [d] }
  | _ => none }
def FnInKeyAlphabetIsByteByByteWrongFalsely : Prop := fnInKeyAlphabetIsByteByByteRow.holds Try.pinned (OpenSpec.ofChange fnInKeyAlphabetIsByteByByteWrong)

end Rows
end Go.Proofs.Qxb6608659a
