/-
  No cell of these rows narrows 'for every input' (looked for: loops, veiled, ifaces, maps, wideKeys, modest, calm, conditions, laid).
  DERIVED. THE GIVEN ROWS OF THIS SEAT. 5 by the template 'for every input the law returns true; each argument reads behind the call as it read before'; 0 by the template 'total and deterministic' (their statements: Qxb6619622aTotals.lean).
  GIVEN WITH THE SEED: the statements are not yours to turn. If you find one false, say at which input.
  Laid BY PROGRAM, IN A SANDBOX (cutbox-rows.mjs): the forced cells as the released guide's own fill.sh prints them over the translation defae89a3c66b53c… (all of the seat's roots in one cut). By AI agents, Wed Nov 11 2026. No macro, syntax, notation, axiom, sorry.
-/
import Derived.Test.Qxb6619622aChecked
import GoSem.Claim
import GoSem.ClaimJoined
import GoSem.ClaimMapViews
import Derived.JoinedTies
import Derived.KernelRfl
namespace Go.Proofs.Qxb6619622a
/- THE CELL 'sum', in the pinned program and in every row, IS THE sha256 OF THE DUMP (.gsa) THAT Qxb6619622aProg.lean LOADS. Nothing in Lean hashes anything: it is a label: what it is worth is what the hold of that sum in a sandbox is worth. -/
noncomputable def Try.pinned : Pinned := { name := "qxb6619622a", sum := "defae89a3c66b53c9b148fbe5c872fdbe32a35c45c5e83939ff7de0a156d2d73", checked := Try.checked }
namespace Rows
def none {H : Type} : Left H := { results := [], args := [] }

/-- 'zzlaws_internal_card_b1.FnLuhnValueDoublesAtEvenPlaces': WHATEVER THE INPUT: true; the input reads as it did. -/
def fnLuhnValueDoublesAtEvenPlacesSpec : ChangeSpec := { name := "fnLuhnValueDoublesAtEvenPlaces", fn := fun _ => fun
  | [d1, d2] => { results := [.lit (.bool true)], args := [d1, d2] }
  | _ => none }
def fnLuhnValueDoublesAtEvenPlacesRow : OpenClaim := { program := "qxb6619622a", sum := "defae89a3c66b53c9b148fbe5c872fdbe32a35c45c5e83939ff7de0a156d2d73", func := "example.com/keelstone/keelstone/zzlaws_internal_card_b1.FnLuhnValueDoublesAtEvenPlaces", spec := "fnLuhnValueDoublesAtEvenPlaces", apart := false }
def FnLuhnValueDoublesAtEvenPlacesSaid : Prop := fnLuhnValueDoublesAtEvenPlacesRow.holds Try.pinned (OpenSpec.ofChange fnLuhnValueDoublesAtEvenPlacesSpec)

/-- ITS FALSE NEIGHBOUR: 'it returns false'. Refute it at one input. -/
def fnLuhnValueDoublesAtEvenPlacesWrong : ChangeSpec := { name := "fnLuhnValueDoublesAtEvenPlaces", fn := fun _ => fun
  | [d1, d2] => { results := [.lit (.bool false)], args := [d1, d2] }
  | _ => none }
def FnLuhnValueDoublesAtEvenPlacesWrongFalsely : Prop := fnLuhnValueDoublesAtEvenPlacesRow.holds Try.pinned (OpenSpec.ofChange fnLuhnValueDoublesAtEvenPlacesWrong)

/-- 'zzlaws_internal_card_b1.FnLuhnValueTellsDigitsApart': WHATEVER THE INPUT: true; the input reads as it did. -/
def fnLuhnValueTellsDigitsApartSpec : ChangeSpec := { name := "fnLuhnValueTellsDigitsApart", fn := fun _ => fun
  | [d1, d2, d3] => { results := [.lit (.bool true)], args := [d1, d2, d3] }
  | _ => none }
def fnLuhnValueTellsDigitsApartRow : OpenClaim := { program := "qxb6619622a", sum := "defae89a3c66b53c9b148fbe5c872fdbe32a35c45c5e83939ff7de0a156d2d73", func := "example.com/keelstone/keelstone/zzlaws_internal_card_b1.FnLuhnValueTellsDigitsApart", spec := "fnLuhnValueTellsDigitsApart", apart := false }
def FnLuhnValueTellsDigitsApartSaid : Prop := fnLuhnValueTellsDigitsApartRow.holds Try.pinned (OpenSpec.ofChange fnLuhnValueTellsDigitsApartSpec)

/-- ITS FALSE NEIGHBOUR: 'it returns false'. Refute it at one input. -/
def fnLuhnValueTellsDigitsApartWrong : ChangeSpec := { name := "fnLuhnValueTellsDigitsApart", fn := fun _ => fun
  | [d1, d2, d3] => { results := [.lit (.bool false)], args := [d1, d2, d3] }
  | _ => none }
def FnLuhnValueTellsDigitsApartWrongFalsely : Prop := fnLuhnValueTellsDigitsApartRow.holds Try.pinned (OpenSpec.ofChange fnLuhnValueTellsDigitsApartWrong)

/-- 'zzlaws_internal_card_b1.FnLuhnValueCatchesAdjacentSwaps': WHATEVER THE INPUT: true; the input reads as it did. -/
def fnLuhnValueCatchesAdjacentSwapsSpec : ChangeSpec := { name := "fnLuhnValueCatchesAdjacentSwaps", fn := fun _ => fun
  | [d1, d2, d3] => { results := [.lit (.bool true)], args := [d1, d2, d3] }
  | _ => none }
def fnLuhnValueCatchesAdjacentSwapsRow : OpenClaim := { program := "qxb6619622a", sum := "defae89a3c66b53c9b148fbe5c872fdbe32a35c45c5e83939ff7de0a156d2d73", func := "example.com/keelstone/keelstone/zzlaws_internal_card_b1.FnLuhnValueCatchesAdjacentSwaps", spec := "fnLuhnValueCatchesAdjacentSwaps", apart := false }
def FnLuhnValueCatchesAdjacentSwapsSaid : Prop := fnLuhnValueCatchesAdjacentSwapsRow.holds Try.pinned (OpenSpec.ofChange fnLuhnValueCatchesAdjacentSwapsSpec)

/-- ITS FALSE NEIGHBOUR: 'it returns false'. Refute it at one input. -/
def fnLuhnValueCatchesAdjacentSwapsWrong : ChangeSpec := { name := "fnLuhnValueCatchesAdjacentSwaps", fn := fun _ => fun
  | [d1, d2, d3] => { results := [.lit (.bool false)], args := [d1, d2, d3] }
  | _ => none }
def FnLuhnValueCatchesAdjacentSwapsWrongFalsely : Prop := fnLuhnValueCatchesAdjacentSwapsRow.holds Try.pinned (OpenSpec.ofChange fnLuhnValueCatchesAdjacentSwapsWrong)

/-- 'zzlaws_internal_card_b1.FnBeforeWalksBackThroughItsStretch': WHATEVER THE INPUT: true; the input reads as it did. -/
def fnBeforeWalksBackThroughItsStretchSpec : ChangeSpec := { name := "fnBeforeWalksBackThroughItsStretch", fn := fun _ => fun
  | [d1, d2] => { results := [.lit (.bool true)], args := [d1, d2] }
  | _ => none }
def fnBeforeWalksBackThroughItsStretchRow : OpenClaim := { program := "qxb6619622a", sum := "defae89a3c66b53c9b148fbe5c872fdbe32a35c45c5e83939ff7de0a156d2d73", func := "example.com/keelstone/keelstone/zzlaws_internal_card_b1.FnBeforeWalksBackThroughItsStretch", spec := "fnBeforeWalksBackThroughItsStretch", apart := false }
def FnBeforeWalksBackThroughItsStretchSaid : Prop := fnBeforeWalksBackThroughItsStretchRow.holds Try.pinned (OpenSpec.ofChange fnBeforeWalksBackThroughItsStretchSpec)

/-- ITS FALSE NEIGHBOUR: 'it returns false'. Refute it at one input. -/
def fnBeforeWalksBackThroughItsStretchWrong : ChangeSpec := { name := "fnBeforeWalksBackThroughItsStretch", fn := fun _ => fun
  | [d1, d2] => { results := [.lit (.bool false)], args := [d1, d2] }
  | _ => none }
def FnBeforeWalksBackThroughItsStretchWrongFalsely : Prop := fnBeforeWalksBackThroughItsStretchRow.holds Try.pinned (OpenSpec.ofChange fnBeforeWalksBackThroughItsStretchWrong)

/-- 'zzlaws_internal_card_b1.FnBeforeShiftsUnderAnyPrefix': WHATEVER THE INPUT: true; the input reads as it did. -/
def fnBeforeShiftsUnderAnyPrefixSpec : ChangeSpec := { name := "fnBeforeShiftsUnderAnyPrefix", fn := fun _ => fun
  | [d1, d2, d3] => { results := [.lit (.bool true)], args := [d1, d2, d3] }
  | _ => none }
def fnBeforeShiftsUnderAnyPrefixRow : OpenClaim := { program := "qxb6619622a", sum := "defae89a3c66b53c9b148fbe5c872fdbe32a35c45c5e83939ff7de0a156d2d73", func := "example.com/keelstone/keelstone/zzlaws_internal_card_b1.FnBeforeShiftsUnderAnyPrefix", spec := "fnBeforeShiftsUnderAnyPrefix", apart := false }
def FnBeforeShiftsUnderAnyPrefixSaid : Prop := fnBeforeShiftsUnderAnyPrefixRow.holds Try.pinned (OpenSpec.ofChange fnBeforeShiftsUnderAnyPrefixSpec)

/-- ITS FALSE NEIGHBOUR: 'it returns false'. Refute it at one input. -/
def fnBeforeShiftsUnderAnyPrefixWrong : ChangeSpec := { name := "fnBeforeShiftsUnderAnyPrefix", fn := fun _ => fun
  | [d1, d2, d3] => { results := [.lit (.bool false)], args := [d1, d2, d3] }
  | _ => none }
def FnBeforeShiftsUnderAnyPrefixWrongFalsely : Prop := fnBeforeShiftsUnderAnyPrefixRow.holds Try.pinned (OpenSpec.ofChange fnBeforeShiftsUnderAnyPrefixWrong)

end Rows
end Go.Proofs.Qxb6619622a
