/-
  No cell of these rows narrows 'for every input' (looked for: loops, veiled, ifaces, maps, wideKeys, modest, calm, conditions, laid).
  DERIVED. THE GIVEN ROWS OF THIS SEAT. 4 by the template 'for every input the law returns true; each argument reads behind the call as it read before'; 0 by the template 'total and deterministic' (their statements: Qxb6602072aTotals.lean).
  GIVEN WITH THE SEED: the statements are not yours to turn. If you find one false, say at which input.
  Laid BY PROGRAM, IN A SANDBOX (cutbox-rows.mjs): the forced cells as the released guide's own fill.sh prints them over the translation 4cc0cb2013926d6e… (all of the seat's roots in one cut). By AI agents, Wed Nov 11 2026. No macro, syntax, notation, axiom, sorry.
-/
import Derived.Test.Qxb6602072aChecked
import GoSem.Claim
import GoSem.ClaimJoined
import GoSem.ClaimMapViews
import Derived.JoinedTies
import Derived.KernelRfl
namespace Go.Proofs.Qxb6602072a
/- THE CELL 'sum', in the pinned program and in every row, IS THE sha256 OF THE DUMP (.gsa) THAT Qxb6602072aProg.lean LOADS. Nothing in Lean hashes anything: it is a label: what it is worth is what the hold of that sum in a sandbox is worth. -/
noncomputable def Try.pinned : Pinned := { name := "qxb6602072a", sum := "4cc0cb2013926d6ed342213a5adde06822af7b416e5d0598b2f4f5ef9936456c", checked := Try.checked }
namespace Rows
def none {H : Type} : Left H := { results := [], args := [] }

/-- 'zzlaws_internal_value_b1.FnNumericTextByPlaces': WHATEVER THE INPUT: true; the input reads as it did. -/
def fnNumericTextByPlacesSpec : ChangeSpec := { name := "fnNumericTextByPlaces", fn := fun _ => fun
  | [d1, d2, d3, d4, d5] => { results := [.lit (.bool true)], args := [d1, d2, d3, d4, d5] }
  | _ => none }
def fnNumericTextByPlacesRow : OpenClaim := { program := "qxb6602072a", sum := "4cc0cb2013926d6ed342213a5adde06822af7b416e5d0598b2f4f5ef9936456c", func := "example.com/nudge-rows/nudge-rows/zzlaws_internal_value_b1.FnNumericTextByPlaces", spec := "fnNumericTextByPlaces", inPlace := ["internal/abi.NoEscape", "internal/bytealg.MakeNoZero"], apart := false }
def FnNumericTextByPlacesSaid : Prop := fnNumericTextByPlacesRow.holds Try.pinned (OpenSpec.ofChange fnNumericTextByPlacesSpec)

/-- ITS FALSE NEIGHBOUR: 'it returns false'. Refute it at one input. -/
def fnNumericTextByPlacesWrong : ChangeSpec := { name := "fnNumericTextByPlaces", fn := fun _ => fun
  | [d1, d2, d3, d4, d5] => { results := [.lit (.bool false)], args := [d1, d2, d3, d4, d5] }
  | _ => none }
def FnNumericTextByPlacesWrongFalsely : Prop := fnNumericTextByPlacesRow.holds Try.pinned (OpenSpec.ofChange fnNumericTextByPlacesWrong)

/-- 'zzlaws_internal_value_b1.FnNumericTextScalePadsZeros': WHATEVER THE INPUT: true; the input reads as it did. -/
def fnNumericTextScalePadsZerosSpec : ChangeSpec := { name := "fnNumericTextScalePadsZeros", fn := fun _ => fun
  | [d1, d2, d3, d4, d5, d6] => { results := [.lit (.bool true)], args := [d1, d2, d3, d4, d5, d6] }
  | _ => none }
def fnNumericTextScalePadsZerosRow : OpenClaim := { program := "qxb6602072a", sum := "4cc0cb2013926d6ed342213a5adde06822af7b416e5d0598b2f4f5ef9936456c", func := "example.com/nudge-rows/nudge-rows/zzlaws_internal_value_b1.FnNumericTextScalePadsZeros", spec := "fnNumericTextScalePadsZeros", inPlace := ["internal/abi.NoEscape", "internal/bytealg.MakeNoZero"], apart := false }
def FnNumericTextScalePadsZerosSaid : Prop := fnNumericTextScalePadsZerosRow.holds Try.pinned (OpenSpec.ofChange fnNumericTextScalePadsZerosSpec)

/-- ITS FALSE NEIGHBOUR: 'it returns false'. Refute it at one input. -/
def fnNumericTextScalePadsZerosWrong : ChangeSpec := { name := "fnNumericTextScalePadsZeros", fn := fun _ => fun
  | [d1, d2, d3, d4, d5, d6] => { results := [.lit (.bool false)], args := [d1, d2, d3, d4, d5, d6] }
  | _ => none }
def FnNumericTextScalePadsZerosWrongFalsely : Prop := fnNumericTextScalePadsZerosRow.holds Try.pinned (OpenSpec.ofChange fnNumericTextScalePadsZerosWrong)

/-- 'zzlaws_internal_value_b1.FnRuneSliceByDecoding': WHATEVER THE INPUT: true; the input reads as it did. -/
def fnRuneSliceByDecodingSpec : ChangeSpec := { name := "fnRuneSliceByDecoding", fn := fun _ => fun
  | [d1, d2, d3] => { results := [.lit (.bool true)], args := [d1, d2, d3] }
  | _ => none }
def fnRuneSliceByDecodingRow : OpenClaim := { program := "qxb6602072a", sum := "4cc0cb2013926d6ed342213a5adde06822af7b416e5d0598b2f4f5ef9936456c", func := "example.com/nudge-rows/nudge-rows/zzlaws_internal_value_b1.FnRuneSliceByDecoding", spec := "fnRuneSliceByDecoding", apart := false }
def FnRuneSliceByDecodingSaid : Prop := fnRuneSliceByDecodingRow.holds Try.pinned (OpenSpec.ofChange fnRuneSliceByDecodingSpec)

/-- ITS FALSE NEIGHBOUR: 'it returns false'. Refute it at one input. -/
def fnRuneSliceByDecodingWrong : ChangeSpec := { name := "fnRuneSliceByDecoding", fn := fun _ => fun
  | [d1, d2, d3] => { results := [.lit (.bool false)], args := [d1, d2, d3] }
  | _ => none }
def FnRuneSliceByDecodingWrongFalsely : Prop := fnRuneSliceByDecodingRow.holds Try.pinned (OpenSpec.ofChange fnRuneSliceByDecodingWrong)

/-- 'zzlaws_internal_value_b1.FnRuneSliceSplits': WHATEVER THE INPUT: true; the input reads as it did. -/
def fnRuneSliceSplitsSpec : ChangeSpec := { name := "fnRuneSliceSplits", fn := fun _ => fun
  | [d1, d2, d3, d4] => { results := [.lit (.bool true)], args := [d1, d2, d3, d4] }
  | _ => none }
def fnRuneSliceSplitsRow : OpenClaim := { program := "qxb6602072a", sum := "4cc0cb2013926d6ed342213a5adde06822af7b416e5d0598b2f4f5ef9936456c", func := "example.com/nudge-rows/nudge-rows/zzlaws_internal_value_b1.FnRuneSliceSplits", spec := "fnRuneSliceSplits", apart := false }
def FnRuneSliceSplitsSaid : Prop := fnRuneSliceSplitsRow.holds Try.pinned (OpenSpec.ofChange fnRuneSliceSplitsSpec)

/-- ITS FALSE NEIGHBOUR: 'it returns false'. Refute it at one input. -/
def fnRuneSliceSplitsWrong : ChangeSpec := { name := "fnRuneSliceSplits", fn := fun _ => fun
  | [d1, d2, d3, d4] => { results := [.lit (.bool false)], args := [d1, d2, d3, d4] }
  | _ => none }
def FnRuneSliceSplitsWrongFalsely : Prop := fnRuneSliceSplitsRow.holds Try.pinned (OpenSpec.ofChange fnRuneSliceSplitsWrong)

end Rows
end Go.Proofs.Qxb6602072a
