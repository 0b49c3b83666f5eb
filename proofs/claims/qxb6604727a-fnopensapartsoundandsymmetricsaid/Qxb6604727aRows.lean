/-
  No cell of these rows narrows 'for every input' (looked for: loops, veiled, ifaces, maps, wideKeys, modest, calm, conditions, laid).
  DERIVED. THE GIVEN ROWS OF THIS SEAT. 5 by the template 'for every input the law returns true; each argument reads behind the call as it read before'; 0 by the template 'total and deterministic' (their statements: Qxb6604727aTotals.lean).
  GIVEN WITH THE SEED: the statements are not yours to turn. If you find one false, say at which input.
  Laid BY PROGRAM, IN A SANDBOX (cutbox-rows.mjs): the forced cells as the released guide's own fill.sh prints them over the translation 6e70408071445d07… (all of the seat's roots in one cut). By AI agents, Wed Nov 11 2026. No macro, syntax, notation, axiom, sorry.
-/
import Derived.Test.Qxb6604727aChecked
import GoSem.Claim
import GoSem.ClaimJoined
import GoSem.ClaimMapViews
import Derived.JoinedTies
import Derived.KernelRfl
namespace Go.Proofs.Qxb6604727a
/- THE CELL 'sum', in the pinned program and in every row, IS THE sha256 OF THE DUMP (.gsa) THAT Qxb6604727aProg.lean LOADS. Nothing in Lean hashes anything: it is a label: what it is worth is what the hold of that sum in a sandbox is worth. -/
noncomputable def Try.pinned : Pinned := { name := "qxb6604727a", sum := "6e70408071445d079b40d5cbc62de1a7b9bbd87a750a7319e6f43705862ec688", checked := Try.checked }
namespace Rows
def none {H : Type} : Left H := { results := [], args := [] }

/-- 'zzlaws_root_b1.FnListPlaceExact': WHATEVER THE INPUT: true; the input reads as it did. -/
def fnListPlaceExactSpec : ChangeSpec := { name := "fnListPlaceExact", fn := fun _ => fun
  | [d] => { results := [.lit (.bool true)], args := [d] }
  | _ => none }
def fnListPlaceExactRow : OpenClaim := { program := "qxb6604727a", sum := "6e70408071445d079b40d5cbc62de1a7b9bbd87a750a7319e6f43705862ec688", func := "example.com/recital/recital/zzlaws_root_b1.FnListPlaceExact", spec := "fnListPlaceExact", apart := false }
def FnListPlaceExactSaid : Prop := fnListPlaceExactRow.holds Try.pinned (OpenSpec.ofChange fnListPlaceExactSpec)

/-- ITS FALSE NEIGHBOUR: 'it returns false'. Refute it at one input. -/
def fnListPlaceExactWrong : ChangeSpec := { name := "fnListPlaceExact", fn := fun _ => fun
  | [d] => { results := [.lit (.bool false)], args := [d] }
  | _ => none }
def FnListPlaceExactWrongFalsely : Prop := fnListPlaceExactRow.holds Try.pinned (OpenSpec.ofChange fnListPlaceExactWrong)

/-- 'zzlaws_root_b1.FnListPlaceRoundTrip': WHATEVER THE INPUT: true; the input reads as it did. -/
def fnListPlaceRoundTripSpec : ChangeSpec := { name := "fnListPlaceRoundTrip", fn := fun _ => fun
  | [d] => { results := [.lit (.bool true)], args := [d] }
  | _ => none }
def fnListPlaceRoundTripRow : OpenClaim := { program := "qxb6604727a", sum := "6e70408071445d079b40d5cbc62de1a7b9bbd87a750a7319e6f43705862ec688", func := "example.com/recital/recital/zzlaws_root_b1.FnListPlaceRoundTrip", spec := "fnListPlaceRoundTrip", apart := false }
def FnListPlaceRoundTripSaid : Prop := fnListPlaceRoundTripRow.holds Try.pinned (OpenSpec.ofChange fnListPlaceRoundTripSpec)

/-- ITS FALSE NEIGHBOUR: 'it returns false'. Refute it at one input. -/
def fnListPlaceRoundTripWrong : ChangeSpec := { name := "fnListPlaceRoundTrip", fn := fun _ => fun
  | [d] => { results := [.lit (.bool false)], args := [d] }
  | _ => none }
def FnListPlaceRoundTripWrongFalsely : Prop := fnListPlaceRoundTripRow.holds Try.pinned (OpenSpec.ofChange fnListPlaceRoundTripWrong)

/-- 'zzlaws_root_b1.FnOpensApartExact': WHATEVER THE INPUT: true; the input reads as it did. -/
def fnOpensApartExactSpec : ChangeSpec := { name := "fnOpensApartExact", fn := fun _ => fun
  | [d1, d2, d3] => { results := [.lit (.bool true)], args := [d1, d2, d3] }
  | _ => none }
def fnOpensApartExactRow : OpenClaim := { program := "qxb6604727a", sum := "6e70408071445d079b40d5cbc62de1a7b9bbd87a750a7319e6f43705862ec688", func := "example.com/recital/recital/zzlaws_root_b1.FnOpensApartExact", spec := "fnOpensApartExact", apart := false }
def FnOpensApartExactSaid : Prop := fnOpensApartExactRow.holds Try.pinned (OpenSpec.ofChange fnOpensApartExactSpec)

/-- ITS FALSE NEIGHBOUR: 'it returns false'. Refute it at one input. -/
def fnOpensApartExactWrong : ChangeSpec := { name := "fnOpensApartExact", fn := fun _ => fun
  | [d1, d2, d3] => { results := [.lit (.bool false)], args := [d1, d2, d3] }
  | _ => none }
def FnOpensApartExactWrongFalsely : Prop := fnOpensApartExactRow.holds Try.pinned (OpenSpec.ofChange fnOpensApartExactWrong)

/-- 'zzlaws_root_b1.FnOpensApartSoundAndSymmetric': WHATEVER THE INPUT: true; the input reads as it did. -/
def fnOpensApartSoundAndSymmetricSpec : ChangeSpec := { name := "fnOpensApartSoundAndSymmetric", fn := fun _ => fun
  | [d1, d2, d3] => { results := [.lit (.bool true)], args := [d1, d2, d3] }
  | _ => none }
def fnOpensApartSoundAndSymmetricRow : OpenClaim := { program := "qxb6604727a", sum := "6e70408071445d079b40d5cbc62de1a7b9bbd87a750a7319e6f43705862ec688", func := "example.com/recital/recital/zzlaws_root_b1.FnOpensApartSoundAndSymmetric", spec := "fnOpensApartSoundAndSymmetric", apart := false }
def FnOpensApartSoundAndSymmetricSaid : Prop := fnOpensApartSoundAndSymmetricRow.holds Try.pinned (OpenSpec.ofChange fnOpensApartSoundAndSymmetricSpec)

/-- ITS FALSE NEIGHBOUR: 'it returns false'. Refute it at one input. -/
def fnOpensApartSoundAndSymmetricWrong : ChangeSpec := { name := "fnOpensApartSoundAndSymmetric", fn := fun _ => fun
  | [d1, d2, d3] => { results := [.lit (.bool false)], args := [d1, d2, d3] }
  | _ => none }
def FnOpensApartSoundAndSymmetricWrongFalsely : Prop := fnOpensApartSoundAndSymmetricRow.holds Try.pinned (OpenSpec.ofChange fnOpensApartSoundAndSymmetricWrong)

/-- 'zzlaws_root_b1.FnIsFullStopByText': WHATEVER THE INPUT: true; the input reads as it did. -/
def fnIsFullStopByTextSpec : ChangeSpec := { name := "fnIsFullStopByText", fn := fun _ => fun
  | [d] => { results := [.lit (.bool true)], args := [d] }
  | _ => none }
def fnIsFullStopByTextRow : OpenClaim := { program := "qxb6604727a", sum := "6e70408071445d079b40d5cbc62de1a7b9bbd87a750a7319e6f43705862ec688", func := "example.com/recital/recital/zzlaws_root_b1.FnIsFullStopByText", spec := "fnIsFullStopByText", apart := false }
def FnIsFullStopByTextSaid : Prop := fnIsFullStopByTextRow.holds Try.pinned (OpenSpec.ofChange fnIsFullStopByTextSpec)

/-- ITS FALSE NEIGHBOUR: 'it returns false'. Refute it at one input. -/
def fnIsFullStopByTextWrong : ChangeSpec := { name := "fnIsFullStopByText", fn := fun _ => fun
  | [d] => { results := [.lit (.bool false)], args := [d] }
  | _ => none }
def FnIsFullStopByTextWrongFalsely : Prop := fnIsFullStopByTextRow.holds Try.pinned (OpenSpec.ofChange fnIsFullStopByTextWrong)

end Rows
end Go.Proofs.Qxb6604727a
