/-
  No cell of these rows narrows 'for every input' (looked for: loops, veiled, ifaces, maps, wideKeys, modest, calm, conditions, laid).
  DERIVED. THE GIVEN ROWS OF THIS SEAT. 2 by the template 'for every input the law returns true; each argument reads behind the call as it read before'; 0 by the template 'total and deterministic' (their statements: Qxb6002904aTotals.lean).
  GIVEN WITH THE SEED: the statements are not yours to turn. If you find one false, say at which input.
  Laid BY PROGRAM, IN A SANDBOX (cutbox-rows.mjs): the forced cells as the released guide's own fill.sh prints them over the translation ce530eec8cd5a23a… (all of the seat's roots in one cut). By AI agents, Wed Nov 11 2026. No macro, syntax, notation, axiom, sorry.
-/
import Derived.Test.Qxb6002904aChecked
import GoSem.Claim
import GoSem.ClaimJoined
import GoSem.ClaimMapViews
import Derived.JoinedTies
import Derived.KernelRfl
namespace Go.Proofs.Qxb6002904a
/- THE CELL 'sum', in the pinned program and in every row, IS THE sha256 OF THE DUMP (.gsa) THAT Qxb6002904aProg.lean LOADS. Nothing in Lean hashes anything: it is a label: what it is worth is what the hold of that sum in a sandbox is worth. -/
noncomputable def Try.pinned : Pinned := { name := "qxb6002904a", sum := "ce530eec8cd5a23a3b108292b446a70312f56e119b3ab5cf9a211d1def936ae9", checked := Try.checked }
namespace Rows
def none {H : Type} : Left H := { results := [], args := [] }

/-- 'zzlaws_root_b1.FnLabelAllowsMoreWithheldLess': WHATEVER THE INPUT: true; the input reads as it did. -/
def fnLabelAllowsMoreWithheldLessSpec : ChangeSpec := { name := "fnLabelAllowsMoreWithheldLess", fn := fun _ => fun
  | [d1, d2, d3, d4, d5, d6] => { results := [.lit (.bool true)], args := [d1, d2, d3, d4, d5, d6] }
  | _ => none }
def fnLabelAllowsMoreWithheldLessRow : OpenClaim := { program := "qxb6002904a", sum := "ce530eec8cd5a23a3b108292b446a70312f56e119b3ab5cf9a211d1def936ae9", func := "example.com/acecheck/acecheck/zzlaws_root_b1.FnLabelAllowsMoreWithheldLess", spec := "fnLabelAllowsMoreWithheldLess", apart := false }
def FnLabelAllowsMoreWithheldLessSaid : Prop := fnLabelAllowsMoreWithheldLessRow.holds Try.pinned (OpenSpec.ofChange fnLabelAllowsMoreWithheldLessSpec)

/-- ITS FALSE NEIGHBOUR: 'it returns false'. Refute it at one input. -/
def fnLabelAllowsMoreWithheldLessWrong : ChangeSpec := { name := "fnLabelAllowsMoreWithheldLess", fn := fun _ => fun
  | [d1, d2, d3, d4, d5, d6] => { results := [.lit (.bool false)], args := [d1, d2, d3, d4, d5, d6] }
  | _ => none }
def FnLabelAllowsMoreWithheldLessWrongFalsely : Prop := fnLabelAllowsMoreWithheldLessRow.holds Try.pinned (OpenSpec.ofChange fnLabelAllowsMoreWithheldLessWrong)

/-- 'zzlaws_root_b1.FnAllowKeepsEveryDecision': WHATEVER THE INPUT: true; the input reads as it did. -/
def fnAllowKeepsEveryDecisionSpec : ChangeSpec := { name := "fnAllowKeepsEveryDecision", fn := fun _ => fun
  | [d1, d2, d3, d4, d5, d6] => { results := [.lit (.bool true)], args := [d1, d2, d3, d4, d5, d6] }
  | _ => none }
def fnAllowKeepsEveryDecisionRow : OpenClaim := { program := "qxb6002904a", sum := "ce530eec8cd5a23a3b108292b446a70312f56e119b3ab5cf9a211d1def936ae9", func := "example.com/acecheck/acecheck/zzlaws_root_b1.FnAllowKeepsEveryDecision", spec := "fnAllowKeepsEveryDecision", apart := false }
def FnAllowKeepsEveryDecisionSaid : Prop := fnAllowKeepsEveryDecisionRow.holds Try.pinned (OpenSpec.ofChange fnAllowKeepsEveryDecisionSpec)

/-- ITS FALSE NEIGHBOUR: 'it returns false'. Refute it at one input. -/
def fnAllowKeepsEveryDecisionWrong : ChangeSpec := { name := "fnAllowKeepsEveryDecision", fn := fun _ => fun
  | [d1, d2, d3, d4, d5, d6] => { results := [.lit (.bool false)], args := [d1, d2, d3, d4, d5, d6] }
  | _ => none }
def FnAllowKeepsEveryDecisionWrongFalsely : Prop := fnAllowKeepsEveryDecisionRow.holds Try.pinned (OpenSpec.ofChange fnAllowKeepsEveryDecisionWrong)

end Rows
end Go.Proofs.Qxb6002904a
