/-
  No cell of these rows narrows 'for every input' (looked for: loops, veiled, ifaces, maps, wideKeys, modest, calm, conditions, laid).
  DERIVED. THE GIVEN ROWS OF THIS SEAT. 2 by the template 'for every input the law returns true; each argument reads behind the call as it read before'; 0 by the template 'total and deterministic' (their statements: Qxb6608900aTotals.lean).
  GIVEN WITH THE SEED: the statements are not yours to turn. If you find one false, say at which input.
  Laid BY PROGRAM, IN A SANDBOX (cutbox-rows.mjs): the forced cells as the released guide's own fill.sh prints them over the translation d5401721ac64dced… (all of the seat's roots in one cut). By AI agents, Wed Nov 11 2026. No macro, syntax, notation, axiom, sorry.
-/
import Derived.Test.Qxb6608900aChecked
import GoSem.Claim
import GoSem.ClaimJoined
import GoSem.ClaimMapViews
import Derived.JoinedTies
import Derived.KernelRfl
namespace Go.Proofs.Qxb6608900a
/- THE CELL 'sum', in the pinned program and in every row, IS THE sha256 OF THE DUMP (.gsa) THAT Qxb6608900aProg.lean LOADS. Nothing in Lean hashes anything: it is a label: what it is worth is what the hold of that sum in a sandbox is worth. -/
noncomputable def Try.pinned : Pinned := { name := "qxb6608900a", sum := "d5401721ac64dced05b6f397c21893994737db70518bbab58de6bde6aeed7336", checked := Try.checked }
namespace Rows
def none {H : Type} : Left H := { results := [], args := [] }

/-- 'zzlaws_root_b1.FnHasErrorsAtAnyCut': WHATEVER THE INPUT: true; the input reads as it did. -/
def fnHasErrorsAtAnyCutSpec : ChangeSpec := { name := "fnHasErrorsAtAnyCut", fn := fun _ => fun
  | [d1, d2] => { results := [.lit (.bool true)], args := [d1, d2] }
  | _ => none }
def fnHasErrorsAtAnyCutRow : OpenClaim := { program := "qxb6608900a", sum := "d5401721ac64dced05b6f397c21893994737db70518bbab58de6bde6aeed7336", func := "example.com/fivefield/fivefield/zzlaws_root_b1.FnHasErrorsAtAnyCut", spec := "fnHasErrorsAtAnyCut", unfollowed := true, recurses := true, apart := false }
def FnHasErrorsAtAnyCutSaid : Prop := fnHasErrorsAtAnyCutRow.holds Try.pinned (OpenSpec.ofChange fnHasErrorsAtAnyCutSpec)

/-- ITS FALSE NEIGHBOUR: 'it returns false'. Refute it at one input. -/
def fnHasErrorsAtAnyCutWrong : ChangeSpec := { name := "fnHasErrorsAtAnyCut", fn := fun _ => fun
  | [d1, d2] => { results := [.lit (.bool false)], args := [d1, d2] }
  | _ => none }
def FnHasErrorsAtAnyCutWrongFalsely : Prop := fnHasErrorsAtAnyCutRow.holds Try.pinned (OpenSpec.ofChange fnHasErrorsAtAnyCutWrong)

/-- 'zzlaws_root_b1.FnHasErrorsOneMoreProblem': WHATEVER THE INPUT: true; the input reads as it did. -/
def fnHasErrorsOneMoreProblemSpec : ChangeSpec := { name := "fnHasErrorsOneMoreProblem", fn := fun _ => fun
  | [d1, d2, d3] => { results := [.lit (.bool true)], args := [d1, d2, d3] }
  | _ => none }
def fnHasErrorsOneMoreProblemRow : OpenClaim := { program := "qxb6608900a", sum := "d5401721ac64dced05b6f397c21893994737db70518bbab58de6bde6aeed7336", func := "example.com/fivefield/fivefield/zzlaws_root_b1.FnHasErrorsOneMoreProblem", spec := "fnHasErrorsOneMoreProblem", unfollowed := true, recurses := true, apart := false }
def FnHasErrorsOneMoreProblemSaid : Prop := fnHasErrorsOneMoreProblemRow.holds Try.pinned (OpenSpec.ofChange fnHasErrorsOneMoreProblemSpec)

/-- ITS FALSE NEIGHBOUR: 'it returns false'. Refute it at one input. -/
def fnHasErrorsOneMoreProblemWrong : ChangeSpec := { name := "fnHasErrorsOneMoreProblem", fn := fun _ => fun
  | [d1, d2, d3] => { results := [.lit (.bool false)], args := [d1, d2, d3] }
  | _ => none }
def FnHasErrorsOneMoreProblemWrongFalsely : Prop := fnHasErrorsOneMoreProblemRow.holds Try.pinned (OpenSpec.ofChange fnHasErrorsOneMoreProblemWrong)

end Rows
end Go.Proofs.Qxb6608900a
