/-
  No cell of these rows narrows 'for every input' (looked for: loops, veiled, ifaces, maps, wideKeys, modest, calm, conditions, laid).
  DERIVED. THE GIVEN ROWS OF THIS SEAT. 6 by the template 'for every input the law returns true; each argument reads behind the call as it read before'; 0 by the template 'total and deterministic' (their statements: Qxb6617175aTotals.lean).
  GIVEN WITH THE SEED: the statements are not yours to turn. If you find one false, say at which input.
  Laid BY PROGRAM, IN A SANDBOX (cutbox-rows.mjs): the forced cells as the released guide's own fill.sh prints them over the translation 0f0935cbb1fb69a0… (all of the seat's roots in one cut). By AI agents, Wed Nov 11 2026. No macro, syntax, notation, axiom, sorry.
-/
import Derived.Test.Qxb6617175aChecked
import GoSem.Claim
import GoSem.ClaimJoined
import GoSem.ClaimMapViews
import Derived.JoinedTies
import Derived.KernelRfl
namespace Go.Proofs.Qxb6617175a
/- THE CELL 'sum', in the pinned program and in every row, IS THE sha256 OF THE DUMP (.gsa) THAT Qxb6617175aProg.lean LOADS. Nothing in Lean hashes anything: it is a label: what it is worth is what the hold of that sum in a sandbox is worth. -/
noncomputable def Try.pinned : Pinned := { name := "qxb6617175a", sum := "0f0935cbb1fb69a03d229dae026d43a9868fca509f761a5e5fde8ca6ae91c692", checked := Try.checked }
namespace Rows
def none {H : Type} : Left H := { results := [], args := [] }

/-- 'zzlaws_transport_sqs_b1.FnIndexFromIsFirstOccurrence': WHATEVER THE INPUT: true; the input reads as it did. -/
def fnIndexFromIsFirstOccurrenceSpec : ChangeSpec := { name := "fnIndexFromIsFirstOccurrence", fn := fun _ => fun
  | [d1, d2, d3] => { results := [.lit (.bool true)], args := [d1, d2, d3] }
  | _ => none }
def fnIndexFromIsFirstOccurrenceRow : OpenClaim := { program := "qxb6617175a", sum := "0f0935cbb1fb69a03d229dae026d43a9868fca509f761a5e5fde8ca6ae91c692", func := "example.com/waybill/waybill/zzlaws_transport_sqs_b1.FnIndexFromIsFirstOccurrence", spec := "fnIndexFromIsFirstOccurrence", inPlace := ["internal/bytealg.IndexByte", "internal/bytealg.Index"], named := ["internal/bytealg.MaxLen"], apart := false }
def FnIndexFromIsFirstOccurrenceSaid : Prop := fnIndexFromIsFirstOccurrenceRow.holds Try.pinned (OpenSpec.ofChange fnIndexFromIsFirstOccurrenceSpec)

/-- ITS FALSE NEIGHBOUR: 'it returns false'. Refute it at one input. -/
def fnIndexFromIsFirstOccurrenceWrong : ChangeSpec := { name := "fnIndexFromIsFirstOccurrence", fn := fun _ => fun
  | [d1, d2, d3] => { results := [.lit (.bool false)], args := [d1, d2, d3] }
  | _ => none }
def FnIndexFromIsFirstOccurrenceWrongFalsely : Prop := fnIndexFromIsFirstOccurrenceRow.holds Try.pinned (OpenSpec.ofChange fnIndexFromIsFirstOccurrenceWrong)

/-- 'zzlaws_transport_sqs_b1.FnIndexFromShiftsPastAPrefix': WHATEVER THE INPUT: true; the input reads as it did. -/
def fnIndexFromShiftsPastAPrefixSpec : ChangeSpec := { name := "fnIndexFromShiftsPastAPrefix", fn := fun _ => fun
  | [d1, d2, d3, d4] => { results := [.lit (.bool true)], args := [d1, d2, d3, d4] }
  | _ => none }
def fnIndexFromShiftsPastAPrefixRow : OpenClaim := { program := "qxb6617175a", sum := "0f0935cbb1fb69a03d229dae026d43a9868fca509f761a5e5fde8ca6ae91c692", func := "example.com/waybill/waybill/zzlaws_transport_sqs_b1.FnIndexFromShiftsPastAPrefix", spec := "fnIndexFromShiftsPastAPrefix", inPlace := ["internal/bytealg.IndexByte", "internal/bytealg.Index"], named := ["internal/bytealg.MaxLen"], apart := false }
def FnIndexFromShiftsPastAPrefixSaid : Prop := fnIndexFromShiftsPastAPrefixRow.holds Try.pinned (OpenSpec.ofChange fnIndexFromShiftsPastAPrefixSpec)

/-- ITS FALSE NEIGHBOUR: 'it returns false'. Refute it at one input. -/
def fnIndexFromShiftsPastAPrefixWrong : ChangeSpec := { name := "fnIndexFromShiftsPastAPrefix", fn := fun _ => fun
  | [d1, d2, d3, d4] => { results := [.lit (.bool false)], args := [d1, d2, d3, d4] }
  | _ => none }
def FnIndexFromShiftsPastAPrefixWrongFalsely : Prop := fnIndexFromShiftsPastAPrefixRow.holds Try.pinned (OpenSpec.ofChange fnIndexFromShiftsPastAPrefixWrong)

/-- 'zzlaws_transport_sqs_b1.FnBeginsWithAgreesWithIndexFrom': WHATEVER THE INPUT: true; the input reads as it did. -/
def fnBeginsWithAgreesWithIndexFromSpec : ChangeSpec := { name := "fnBeginsWithAgreesWithIndexFrom", fn := fun _ => fun
  | [d1, d2] => { results := [.lit (.bool true)], args := [d1, d2] }
  | _ => none }
def fnBeginsWithAgreesWithIndexFromRow : OpenClaim := { program := "qxb6617175a", sum := "0f0935cbb1fb69a03d229dae026d43a9868fca509f761a5e5fde8ca6ae91c692", func := "example.com/waybill/waybill/zzlaws_transport_sqs_b1.FnBeginsWithAgreesWithIndexFrom", spec := "fnBeginsWithAgreesWithIndexFrom", inPlace := ["internal/bytealg.IndexByte", "internal/bytealg.Index"], named := ["internal/bytealg.MaxLen"], apart := false }
def FnBeginsWithAgreesWithIndexFromSaid : Prop := fnBeginsWithAgreesWithIndexFromRow.holds Try.pinned (OpenSpec.ofChange fnBeginsWithAgreesWithIndexFromSpec)

/-- ITS FALSE NEIGHBOUR: 'it returns false'. Refute it at one input. -/
def fnBeginsWithAgreesWithIndexFromWrong : ChangeSpec := { name := "fnBeginsWithAgreesWithIndexFrom", fn := fun _ => fun
  | [d1, d2] => { results := [.lit (.bool false)], args := [d1, d2] }
  | _ => none }
def FnBeginsWithAgreesWithIndexFromWrongFalsely : Prop := fnBeginsWithAgreesWithIndexFromRow.holds Try.pinned (OpenSpec.ofChange fnBeginsWithAgreesWithIndexFromWrong)

/-- 'zzlaws_transport_sqs_b1.FnBeginsWithPlantedAndSwapped': WHATEVER THE INPUT: true; the input reads as it did. -/
def fnBeginsWithPlantedAndSwappedSpec : ChangeSpec := { name := "fnBeginsWithPlantedAndSwapped", fn := fun _ => fun
  | [d1, d2, d3, d4] => { results := [.lit (.bool true)], args := [d1, d2, d3, d4] }
  | _ => none }
def fnBeginsWithPlantedAndSwappedRow : OpenClaim := { program := "qxb6617175a", sum := "0f0935cbb1fb69a03d229dae026d43a9868fca509f761a5e5fde8ca6ae91c692", func := "example.com/waybill/waybill/zzlaws_transport_sqs_b1.FnBeginsWithPlantedAndSwapped", spec := "fnBeginsWithPlantedAndSwapped", apart := false }
def FnBeginsWithPlantedAndSwappedSaid : Prop := fnBeginsWithPlantedAndSwappedRow.holds Try.pinned (OpenSpec.ofChange fnBeginsWithPlantedAndSwappedSpec)

/-- ITS FALSE NEIGHBOUR: 'it returns false'. Refute it at one input. -/
def fnBeginsWithPlantedAndSwappedWrong : ChangeSpec := { name := "fnBeginsWithPlantedAndSwapped", fn := fun _ => fun
  | [d1, d2, d3, d4] => { results := [.lit (.bool false)], args := [d1, d2, d3, d4] }
  | _ => none }
def FnBeginsWithPlantedAndSwappedWrongFalsely : Prop := fnBeginsWithPlantedAndSwappedRow.holds Try.pinned (OpenSpec.ofChange fnBeginsWithPlantedAndSwappedWrong)

/-- 'zzlaws_transport_sqs_b1.FnMarkingWroteCountsSetBits': WHATEVER THE INPUT: true; the input reads as it did. -/
def fnMarkingWroteCountsSetBitsSpec : ChangeSpec := { name := "fnMarkingWroteCountsSetBits", fn := fun _ => fun
  | [d1, d2, d3] => { results := [.lit (.bool true)], args := [d1, d2, d3] }
  | _ => none }
def fnMarkingWroteCountsSetBitsRow : OpenClaim := { program := "qxb6617175a", sum := "0f0935cbb1fb69a03d229dae026d43a9868fca509f761a5e5fde8ca6ae91c692", func := "example.com/waybill/waybill/zzlaws_transport_sqs_b1.FnMarkingWroteCountsSetBits", spec := "fnMarkingWroteCountsSetBits", apart := false }
def FnMarkingWroteCountsSetBitsSaid : Prop := fnMarkingWroteCountsSetBitsRow.holds Try.pinned (OpenSpec.ofChange fnMarkingWroteCountsSetBitsSpec)

/-- ITS FALSE NEIGHBOUR: 'it returns false'. Refute it at one input. -/
def fnMarkingWroteCountsSetBitsWrong : ChangeSpec := { name := "fnMarkingWroteCountsSetBits", fn := fun _ => fun
  | [d1, d2, d3] => { results := [.lit (.bool false)], args := [d1, d2, d3] }
  | _ => none }
def FnMarkingWroteCountsSetBitsWrongFalsely : Prop := fnMarkingWroteCountsSetBitsRow.holds Try.pinned (OpenSpec.ofChange fnMarkingWroteCountsSetBitsWrong)

/-- 'zzlaws_transport_sqs_b1.FnMarkingWroteSeesOneBitAtItsPlace': WHATEVER THE INPUT: true; the input reads as it did. -/
def fnMarkingWroteSeesOneBitAtItsPlaceSpec : ChangeSpec := { name := "fnMarkingWroteSeesOneBitAtItsPlace", fn := fun _ => fun
  | [d1, d2, d3] => { results := [.lit (.bool true)], args := [d1, d2, d3] }
  | _ => none }
def fnMarkingWroteSeesOneBitAtItsPlaceRow : OpenClaim := { program := "qxb6617175a", sum := "0f0935cbb1fb69a03d229dae026d43a9868fca509f761a5e5fde8ca6ae91c692", func := "example.com/waybill/waybill/zzlaws_transport_sqs_b1.FnMarkingWroteSeesOneBitAtItsPlace", spec := "fnMarkingWroteSeesOneBitAtItsPlace", apart := false }
def FnMarkingWroteSeesOneBitAtItsPlaceSaid : Prop := fnMarkingWroteSeesOneBitAtItsPlaceRow.holds Try.pinned (OpenSpec.ofChange fnMarkingWroteSeesOneBitAtItsPlaceSpec)

/-- ITS FALSE NEIGHBOUR: 'it returns false'. Refute it at one input. -/
def fnMarkingWroteSeesOneBitAtItsPlaceWrong : ChangeSpec := { name := "fnMarkingWroteSeesOneBitAtItsPlace", fn := fun _ => fun
  | [d1, d2, d3] => { results := [.lit (.bool false)], args := [d1, d2, d3] }
  | _ => none }
def FnMarkingWroteSeesOneBitAtItsPlaceWrongFalsely : Prop := fnMarkingWroteSeesOneBitAtItsPlaceRow.holds Try.pinned (OpenSpec.ofChange fnMarkingWroteSeesOneBitAtItsPlaceWrong)

end Rows
end Go.Proofs.Qxb6617175a
