/-
  No cell of these rows narrows 'for every input' (looked for: loops, veiled, ifaces, maps, wideKeys, modest, calm, conditions, laid).
  DERIVED. THE GIVEN ROWS OF THIS SEAT. 4 by the template 'for every input the law returns true; each argument reads behind the call as it read before'; 0 by the template 'total and deterministic' (their statements: Qxb6603006aTotals.lean).
  GIVEN WITH THE SEED: the statements are not yours to turn. If you find one false, say at which input.
  Laid BY PROGRAM, IN A SANDBOX (cutbox-rows.mjs): the forced cells as the released guide's own fill.sh prints them over the translation 82f2e20082fda7b7… (all of the seat's roots in one cut). By AI agents, Wed Nov 11 2026. No macro, syntax, notation, axiom, sorry.
-/
import Derived.Test.Qxb6603006aChecked
import GoSem.Claim
import GoSem.ClaimJoined
import GoSem.ClaimMapViews
import Derived.JoinedTies
import Derived.KernelRfl
namespace Go.Proofs.Qxb6603006a
/- THE CELL 'sum', in the pinned program and in every row, IS THE sha256 OF THE DUMP (.gsa) THAT Qxb6603006aProg.lean LOADS. Nothing in Lean hashes anything: it is a label: what it is worth is what the hold of that sum in a sandbox is worth. -/
noncomputable def Try.pinned : Pinned := { name := "qxb6603006a", sum := "82f2e20082fda7b7471b561b1fed99d1b89e168565ff5fa4ed7ad834e765ff19", checked := Try.checked }
namespace Rows
def none {H : Type} : Left H := { results := [], args := [] }

/-- 'zzlaws_internal_cborcore_b1.FnWidenMatchesValueModel': WHATEVER THE INPUT: true; the input reads as it did. -/
def fnWidenMatchesValueModelSpec : ChangeSpec := { name := "fnWidenMatchesValueModel", fn := fun _ => fun
  | [d1, d2, d3] => { results := [.lit (.bool true)], args := [d1, d2, d3] }
  | _ => none }
def fnWidenMatchesValueModelRow : OpenClaim := { program := "qxb6603006a", sum := "82f2e20082fda7b7471b561b1fed99d1b89e168565ff5fa4ed7ad834e765ff19", func := "example.com/hectograph/hectograph/zzlaws_internal_cborcore_b1.FnWidenMatchesValueModel", spec := "fnWidenMatchesValueModel", apart := false }
def FnWidenMatchesValueModelSaid : Prop := fnWidenMatchesValueModelRow.holds Try.pinned (OpenSpec.ofChange fnWidenMatchesValueModelSpec)

/-- ITS FALSE NEIGHBOUR: 'it returns false'. Refute it at one input. -/
def fnWidenMatchesValueModelWrong : ChangeSpec := { name := "fnWidenMatchesValueModel", fn := fun _ => fun
  | [d1, d2, d3] => { results := [.lit (.bool false)], args := [d1, d2, d3] }
  | _ => none }
def FnWidenMatchesValueModelWrongFalsely : Prop := fnWidenMatchesValueModelRow.holds Try.pinned (OpenSpec.ofChange fnWidenMatchesValueModelWrong)

/-- 'zzlaws_internal_cborcore_b1.FnWidenOrderAndSign': WHATEVER THE INPUT: true; the input reads as it did. -/
def fnWidenOrderAndSignSpec : ChangeSpec := { name := "fnWidenOrderAndSign", fn := fun _ => fun
  | [d1, d2, d3, d4] => { results := [.lit (.bool true)], args := [d1, d2, d3, d4] }
  | _ => none }
def fnWidenOrderAndSignRow : OpenClaim := { program := "qxb6603006a", sum := "82f2e20082fda7b7471b561b1fed99d1b89e168565ff5fa4ed7ad834e765ff19", func := "example.com/hectograph/hectograph/zzlaws_internal_cborcore_b1.FnWidenOrderAndSign", spec := "fnWidenOrderAndSign", apart := false }
def FnWidenOrderAndSignSaid : Prop := fnWidenOrderAndSignRow.holds Try.pinned (OpenSpec.ofChange fnWidenOrderAndSignSpec)

/-- ITS FALSE NEIGHBOUR: 'it returns false'. Refute it at one input. -/
def fnWidenOrderAndSignWrong : ChangeSpec := { name := "fnWidenOrderAndSign", fn := fun _ => fun
  | [d1, d2, d3, d4] => { results := [.lit (.bool false)], args := [d1, d2, d3, d4] }
  | _ => none }
def FnWidenOrderAndSignWrongFalsely : Prop := fnWidenOrderAndSignRow.holds Try.pinned (OpenSpec.ofChange fnWidenOrderAndSignWrong)

/-- 'zzlaws_internal_cborcore_b1.FnNarrowMatchesValueModel': WHATEVER THE INPUT: true; the input reads as it did. -/
def fnNarrowMatchesValueModelSpec : ChangeSpec := { name := "fnNarrowMatchesValueModel", fn := fun _ => fun
  | [d1, d2, d3] => { results := [.lit (.bool true)], args := [d1, d2, d3] }
  | _ => none }
def fnNarrowMatchesValueModelRow : OpenClaim := { program := "qxb6603006a", sum := "82f2e20082fda7b7471b561b1fed99d1b89e168565ff5fa4ed7ad834e765ff19", func := "example.com/hectograph/hectograph/zzlaws_internal_cborcore_b1.FnNarrowMatchesValueModel", spec := "fnNarrowMatchesValueModel", apart := false }
def FnNarrowMatchesValueModelSaid : Prop := fnNarrowMatchesValueModelRow.holds Try.pinned (OpenSpec.ofChange fnNarrowMatchesValueModelSpec)

/-- ITS FALSE NEIGHBOUR: 'it returns false'. Refute it at one input. -/
def fnNarrowMatchesValueModelWrong : ChangeSpec := { name := "fnNarrowMatchesValueModel", fn := fun _ => fun
  | [d1, d2, d3] => { results := [.lit (.bool false)], args := [d1, d2, d3] }
  | _ => none }
def FnNarrowMatchesValueModelWrongFalsely : Prop := fnNarrowMatchesValueModelRow.holds Try.pinned (OpenSpec.ofChange fnNarrowMatchesValueModelWrong)

/-- 'zzlaws_internal_cborcore_b1.FnNarrowWidenRoundTrip': WHATEVER THE INPUT: true; the input reads as it did. -/
def fnNarrowWidenRoundTripSpec : ChangeSpec := { name := "fnNarrowWidenRoundTrip", fn := fun _ => fun
  | [d1, d2, d3] => { results := [.lit (.bool true)], args := [d1, d2, d3] }
  | _ => none }
def fnNarrowWidenRoundTripRow : OpenClaim := { program := "qxb6603006a", sum := "82f2e20082fda7b7471b561b1fed99d1b89e168565ff5fa4ed7ad834e765ff19", func := "example.com/hectograph/hectograph/zzlaws_internal_cborcore_b1.FnNarrowWidenRoundTrip", spec := "fnNarrowWidenRoundTrip", apart := false }
def FnNarrowWidenRoundTripSaid : Prop := fnNarrowWidenRoundTripRow.holds Try.pinned (OpenSpec.ofChange fnNarrowWidenRoundTripSpec)

/-- ITS FALSE NEIGHBOUR: 'it returns false'. Refute it at one input. -/
def fnNarrowWidenRoundTripWrong : ChangeSpec := { name := "fnNarrowWidenRoundTrip", fn := fun _ => fun
  | [d1, d2, d3] => { results := [.lit (.bool false)], args := [d1, d2, d3] }
  | _ => none }
def FnNarrowWidenRoundTripWrongFalsely : Prop := fnNarrowWidenRoundTripRow.holds Try.pinned (OpenSpec.ofChange fnNarrowWidenRoundTripWrong)

end Rows
end Go.Proofs.Qxb6603006a
