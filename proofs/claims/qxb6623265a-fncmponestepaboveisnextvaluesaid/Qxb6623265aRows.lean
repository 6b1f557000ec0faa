/-
  No cell of these rows narrows 'for every input' (looked for: loops, veiled, ifaces, maps, wideKeys, modest, calm, conditions, laid).
  DERIVED. THE GIVEN ROWS OF THIS SEAT. 2 by the template 'for every input the law returns true; each argument reads behind the call as it read before'; 0 by the template 'total and deterministic' (their statements: Qxb6623265aTotals.lean).
  GIVEN WITH THE SEED: the statements are not yours to turn. If you find one false, say at which input.
  Laid BY PROGRAM, IN A SANDBOX (cutbox-rows.mjs): the forced cells as the released guide's own fill.sh prints them over the translation a61acfb467362ff1… (all of the seat's roots in one cut). By AI agents, Wed Nov 11 2026. No macro, syntax, notation, axiom, sorry.
-/
import Derived.Test.Qxb6623265aChecked
import GoSem.Claim
import GoSem.ClaimJoined
import GoSem.ClaimMapViews
import Derived.JoinedTies
import Derived.KernelRfl
namespace Go.Proofs.Qxb6623265a
/- THE CELL 'sum', in the pinned program and in every row, IS THE sha256 OF THE DUMP (.gsa) THAT Qxb6623265aProg.lean LOADS. Nothing in Lean hashes anything: it is a label: what it is worth is what the hold of that sum in a sandbox is worth. -/
noncomputable def Try.pinned : Pinned := { name := "qxb6623265a", sum := "a61acfb467362ff1f8bed90bf81b9e34cf7ae43827288ad1d829a36f4900cdb6", checked := Try.checked }
namespace Rows
def none {H : Type} : Left H := { results := [], args := [] }

/-- 'zzlaws_internal_split_b1.FnCmpIsSignOf128BitDifference': WHATEVER THE INPUT: true; the input reads as it did. -/
def fnCmpIsSignOf128BitDifferenceSpec : ChangeSpec := { name := "fnCmpIsSignOf128BitDifference", fn := fun _ => fun
  | [d1, d2, d3, d4] => { results := [.lit (.bool true)], args := [d1, d2, d3, d4] }
  | _ => none }
def fnCmpIsSignOf128BitDifferenceRow : OpenClaim := { program := "qxb6623265a", sum := "a61acfb467362ff1f8bed90bf81b9e34cf7ae43827288ad1d829a36f4900cdb6", func := "example.com/apportion/apportion/zzlaws_internal_split_b1.FnCmpIsSignOf128BitDifference", spec := "fnCmpIsSignOf128BitDifference", inPlace := ["math/bits.Sub64"], apart := false }
def FnCmpIsSignOf128BitDifferenceSaid : Prop := fnCmpIsSignOf128BitDifferenceRow.holds Try.pinned (OpenSpec.ofChange fnCmpIsSignOf128BitDifferenceSpec)

/-- ITS FALSE NEIGHBOUR: 'it returns false'. Refute it at one input. -/
def fnCmpIsSignOf128BitDifferenceWrong : ChangeSpec := { name := "fnCmpIsSignOf128BitDifference", fn := fun _ => fun
  | [d1, d2, d3, d4] => { results := [.lit (.bool false)], args := [d1, d2, d3, d4] }
  | _ => none }
def FnCmpIsSignOf128BitDifferenceWrongFalsely : Prop := fnCmpIsSignOf128BitDifferenceRow.holds Try.pinned (OpenSpec.ofChange fnCmpIsSignOf128BitDifferenceWrong)

/-- 'zzlaws_internal_split_b1.FnCmpOneStepAboveIsNextValue': WHATEVER THE INPUT: true; the input reads as it did. -/
def fnCmpOneStepAboveIsNextValueSpec : ChangeSpec := { name := "fnCmpOneStepAboveIsNextValue", fn := fun _ => fun
  | [d1, d2, d3, d4] => { results := [.lit (.bool true)], args := [d1, d2, d3, d4] }
  | _ => none }
def fnCmpOneStepAboveIsNextValueRow : OpenClaim := { program := "qxb6623265a", sum := "a61acfb467362ff1f8bed90bf81b9e34cf7ae43827288ad1d829a36f4900cdb6", func := "example.com/apportion/apportion/zzlaws_internal_split_b1.FnCmpOneStepAboveIsNextValue", spec := "fnCmpOneStepAboveIsNextValue", inPlace := ["math/bits.Add64"], apart := false }
def FnCmpOneStepAboveIsNextValueSaid : Prop := fnCmpOneStepAboveIsNextValueRow.holds Try.pinned (OpenSpec.ofChange fnCmpOneStepAboveIsNextValueSpec)

/-- ITS FALSE NEIGHBOUR: 'it returns false'. Refute it at one input. -/
def fnCmpOneStepAboveIsNextValueWrong : ChangeSpec := { name := "fnCmpOneStepAboveIsNextValue", fn := fun _ => fun
  | [d1, d2, d3, d4] => { results := [.lit (.bool false)], args := [d1, d2, d3, d4] }
  | _ => none }
def FnCmpOneStepAboveIsNextValueWrongFalsely : Prop := fnCmpOneStepAboveIsNextValueRow.holds Try.pinned (OpenSpec.ofChange fnCmpOneStepAboveIsNextValueWrong)

end Rows
end Go.Proofs.Qxb6623265a
