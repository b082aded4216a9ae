/-
  No cell of these rows narrows 'for every input' (looked for: loops, veiled, ifaces, maps, wideKeys, modest, calm, conditions, laid).
  DERIVED. THE GIVEN ROWS OF THIS SEAT. 9 by the template 'for every input the law returns true; each argument reads behind the call as it read before'; 0 by the template 'total and deterministic' (their statements: Qxb6001672aTotals.lean).
  GIVEN WITH THE SEED: the statements are not yours to turn. If you find one false, say at which input.
  Laid BY PROGRAM, IN A SANDBOX (cutbox-rows.mjs): the forced cells as the released guide's own fill.sh prints them over the translation fb47f0ca690f1fa7… (all of the seat's roots in one cut). By AI agents, Wed Nov 11 2026. No macro, syntax, notation, axiom, sorry.
-/
import Derived.Test.Qxb6001672aChecked
import GoSem.Claim
import GoSem.ClaimJoined
import GoSem.ClaimMapViews
import Derived.JoinedTies
import Derived.KernelRfl
namespace Go.Proofs.Qxb6001672a
/- THE CELL 'sum', in the pinned program and in every row, IS THE sha256 OF THE DUMP (.gsa) THAT Qxb6001672aProg.lean LOADS. Nothing in Lean hashes anything: it is a label: what it is worth is what the hold of that sum in a sandbox is worth. -/
noncomputable def Try.pinned : Pinned := { name := "qxb6001672a", sum := "fb47f0ca690f1fa70b9255de9149eaa8737920acfe984bb9cccef81704b16cee", checked := Try.checked }
namespace Rows
def none {H : Type} : Left H := { results := [], args := [] }

/-- 'zzlaws_root_g1.FnWindowIsTheRowsAfterOffsetUpToCount': WHATEVER THE INPUT: true; the input reads as it did. -/
def fnWindowIsTheRowsAfterOffsetUpToCountSpec : ChangeSpec := { name := "fnWindowIsTheRowsAfterOffsetUpToCount", fn := fun _ => fun
  | [d1, d2, d3] => { results := [.lit (.bool true)], args := [d1, d2, d3] }
  | _ => none }
def fnWindowIsTheRowsAfterOffsetUpToCountRow : OpenClaim := { program := "qxb6001672a", sum := "fb47f0ca690f1fa70b9255de9149eaa8737920acfe984bb9cccef81704b16cee", func := "example.com/chronorow/chronorow/zzlaws_root_g1.FnWindowIsTheRowsAfterOffsetUpToCount", spec := "fnWindowIsTheRowsAfterOffsetUpToCount", apart := false }
def FnWindowIsTheRowsAfterOffsetUpToCountSaid : Prop := fnWindowIsTheRowsAfterOffsetUpToCountRow.holds Try.pinned (OpenSpec.ofChange fnWindowIsTheRowsAfterOffsetUpToCountSpec)

/-- ITS FALSE NEIGHBOUR: 'it returns false'. Refute it at one input. -/
def fnWindowIsTheRowsAfterOffsetUpToCountWrong : ChangeSpec := { name := "fnWindowIsTheRowsAfterOffsetUpToCount", fn := fun _ => fun
  | [d1, d2, d3] => { results := [.lit (.bool false)], args := [d1, d2, d3] }
  | _ => none }
def FnWindowIsTheRowsAfterOffsetUpToCountWrongFalsely : Prop := fnWindowIsTheRowsAfterOffsetUpToCountRow.holds Try.pinned (OpenSpec.ofChange fnWindowIsTheRowsAfterOffsetUpToCountWrong)

/-- 'zzlaws_root_g1.FnWithIsAnOverrideMonoid': WHATEVER THE INPUT: true; the input reads as it did. -/
def fnWithIsAnOverrideMonoidSpec : ChangeSpec := { name := "fnWithIsAnOverrideMonoid", fn := fun _ => fun
  | [d1, d2, d3, d4, d5, d6] => { results := [.lit (.bool true)], args := [d1, d2, d3, d4, d5, d6] }
  | _ => none }
def fnWithIsAnOverrideMonoidRow : OpenClaim := { program := "qxb6001672a", sum := "fb47f0ca690f1fa70b9255de9149eaa8737920acfe984bb9cccef81704b16cee", func := "example.com/chronorow/chronorow/zzlaws_root_g1.FnWithIsAnOverrideMonoid", spec := "fnWithIsAnOverrideMonoid", apart := false }
def FnWithIsAnOverrideMonoidSaid : Prop := fnWithIsAnOverrideMonoidRow.holds Try.pinned (OpenSpec.ofChange fnWithIsAnOverrideMonoidSpec)

/-- ITS FALSE NEIGHBOUR: 'it returns false'. Refute it at one input. -/
def fnWithIsAnOverrideMonoidWrong : ChangeSpec := { name := "fnWithIsAnOverrideMonoid", fn := fun _ => fun
  | [d1, d2, d3, d4, d5, d6] => { results := [.lit (.bool false)], args := [d1, d2, d3, d4, d5, d6] }
  | _ => none }
def FnWithIsAnOverrideMonoidWrongFalsely : Prop := fnWithIsAnOverrideMonoidRow.holds Try.pinned (OpenSpec.ofChange fnWithIsAnOverrideMonoidWrong)

/-- 'zzlaws_root_g2.FnStatesIdempotentAndPlainMeansIntegers': WHATEVER THE INPUT: true; the input reads as it did. -/
def fnStatesIdempotentAndPlainMeansIntegersSpec : ChangeSpec := { name := "fnStatesIdempotentAndPlainMeansIntegers", fn := fun _ => fun
  | [d1, d2, d3] => { results := [.lit (.bool true)], args := [d1, d2, d3] }
  | _ => none }
def fnStatesIdempotentAndPlainMeansIntegersRow : OpenClaim := { program := "qxb6001672a", sum := "fb47f0ca690f1fa70b9255de9149eaa8737920acfe984bb9cccef81704b16cee", func := "example.com/chronorow/chronorow/zzlaws_root_g2.FnStatesIdempotentAndPlainMeansIntegers", spec := "fnStatesIdempotentAndPlainMeansIntegers", apart := false }
def FnStatesIdempotentAndPlainMeansIntegersSaid : Prop := fnStatesIdempotentAndPlainMeansIntegersRow.holds Try.pinned (OpenSpec.ofChange fnStatesIdempotentAndPlainMeansIntegersSpec)

/-- ITS FALSE NEIGHBOUR: 'it returns false'. Refute it at one input. -/
def fnStatesIdempotentAndPlainMeansIntegersWrong : ChangeSpec := { name := "fnStatesIdempotentAndPlainMeansIntegers", fn := fun _ => fun
  | [d1, d2, d3] => { results := [.lit (.bool false)], args := [d1, d2, d3] }
  | _ => none }
def FnStatesIdempotentAndPlainMeansIntegersWrongFalsely : Prop := fnStatesIdempotentAndPlainMeansIntegersRow.holds Try.pinned (OpenSpec.ofChange fnStatesIdempotentAndPlainMeansIntegersWrong)

/-- 'zzlaws_root_g2.FnKeyedHangsOnFirstOrderItemAlone': WHATEVER THE INPUT: true; the input reads as it did. -/
def fnKeyedHangsOnFirstOrderItemAloneSpec : ChangeSpec := { name := "fnKeyedHangsOnFirstOrderItemAlone", fn := fun _ => fun
  | [d1, d2, d3, d4, d5, d6, d7] => { results := [.lit (.bool true)], args := [d1, d2, d3, d4, d5, d6, d7] }
  | _ => none }
def fnKeyedHangsOnFirstOrderItemAloneRow : OpenClaim := { program := "qxb6001672a", sum := "fb47f0ca690f1fa70b9255de9149eaa8737920acfe984bb9cccef81704b16cee", func := "example.com/chronorow/chronorow/zzlaws_root_g2.FnKeyedHangsOnFirstOrderItemAlone", spec := "fnKeyedHangsOnFirstOrderItemAlone", apart := false }
def FnKeyedHangsOnFirstOrderItemAloneSaid : Prop := fnKeyedHangsOnFirstOrderItemAloneRow.holds Try.pinned (OpenSpec.ofChange fnKeyedHangsOnFirstOrderItemAloneSpec)

/-- ITS FALSE NEIGHBOUR: 'it returns false'. Refute it at one input. -/
def fnKeyedHangsOnFirstOrderItemAloneWrong : ChangeSpec := { name := "fnKeyedHangsOnFirstOrderItemAlone", fn := fun _ => fun
  | [d1, d2, d3, d4, d5, d6, d7] => { results := [.lit (.bool false)], args := [d1, d2, d3, d4, d5, d6, d7] }
  | _ => none }
def FnKeyedHangsOnFirstOrderItemAloneWrongFalsely : Prop := fnKeyedHangsOnFirstOrderItemAloneRow.holds Try.pinned (OpenSpec.ofChange fnKeyedHangsOnFirstOrderItemAloneWrong)

/-- 'zzlaws_internal_engine_g1.FnColumnReadInvertsPacking': WHATEVER THE INPUT: true; the input reads as it did. -/
def fnColumnReadInvertsPackingSpec : ChangeSpec := { name := "fnColumnReadInvertsPacking", fn := fun _ => fun
  | [d1, d2, d3, d4, d5, d6, d7] => { results := [.lit (.bool true)], args := [d1, d2, d3, d4, d5, d6, d7] }
  | _ => none }
def fnColumnReadInvertsPackingRow : OpenClaim := { program := "qxb6001672a", sum := "fb47f0ca690f1fa70b9255de9149eaa8737920acfe984bb9cccef81704b16cee", func := "example.com/chronorow/chronorow/zzlaws_internal_engine_g1.FnColumnReadInvertsPacking", spec := "fnColumnReadInvertsPacking", apart := false }
def FnColumnReadInvertsPackingSaid : Prop := fnColumnReadInvertsPackingRow.holds Try.pinned (OpenSpec.ofChange fnColumnReadInvertsPackingSpec)

/-- ITS FALSE NEIGHBOUR: 'it returns false'. Refute it at one input. -/
def fnColumnReadInvertsPackingWrong : ChangeSpec := { name := "fnColumnReadInvertsPacking", fn := fun _ => fun
  | [d1, d2, d3, d4, d5, d6, d7] => { results := [.lit (.bool false)], args := [d1, d2, d3, d4, d5, d6, d7] }
  | _ => none }
def FnColumnReadInvertsPackingWrongFalsely : Prop := fnColumnReadInvertsPackingRow.holds Try.pinned (OpenSpec.ofChange fnColumnReadInvertsPackingWrong)

/-- 'zzlaws_internal_engine_g1.FnEmptiedHoldsNoRows': WHATEVER THE INPUT: true; the input reads as it did. -/
def fnEmptiedHoldsNoRowsSpec : ChangeSpec := { name := "fnEmptiedHoldsNoRows", fn := fun _ => fun
  | [d1, d2, d3, d4] => { results := [.lit (.bool true)], args := [d1, d2, d3, d4] }
  | _ => none }
def fnEmptiedHoldsNoRowsRow : OpenClaim := { program := "qxb6001672a", sum := "fb47f0ca690f1fa70b9255de9149eaa8737920acfe984bb9cccef81704b16cee", func := "example.com/chronorow/chronorow/zzlaws_internal_engine_g1.FnEmptiedHoldsNoRows", spec := "fnEmptiedHoldsNoRows", apart := false }
def FnEmptiedHoldsNoRowsSaid : Prop := fnEmptiedHoldsNoRowsRow.holds Try.pinned (OpenSpec.ofChange fnEmptiedHoldsNoRowsSpec)

/-- ITS FALSE NEIGHBOUR: 'it returns false'. Refute it at one input. -/
def fnEmptiedHoldsNoRowsWrong : ChangeSpec := { name := "fnEmptiedHoldsNoRows", fn := fun _ => fun
  | [d1, d2, d3, d4] => { results := [.lit (.bool false)], args := [d1, d2, d3, d4] }
  | _ => none }
def FnEmptiedHoldsNoRowsWrongFalsely : Prop := fnEmptiedHoldsNoRowsRow.holds Try.pinned (OpenSpec.ofChange fnEmptiedHoldsNoRowsWrong)

/-- 'zzlaws_root_g1.FnApplyIsKleenePerRow': WHATEVER THE INPUT: true; the input reads as it did. -/
def fnApplyIsKleenePerRowSpec : ChangeSpec := { name := "fnApplyIsKleenePerRow", fn := fun _ => fun
  | [d1, d2, d3, d4, d5, d6, d7] => { results := [.lit (.bool true)], args := [d1, d2, d3, d4, d5, d6, d7] }
  | _ => none }
def fnApplyIsKleenePerRowRow : OpenClaim := { program := "qxb6001672a", sum := "fb47f0ca690f1fa70b9255de9149eaa8737920acfe984bb9cccef81704b16cee", func := "example.com/chronorow/chronorow/zzlaws_root_g1.FnApplyIsKleenePerRow", spec := "fnApplyIsKleenePerRow", apart := false }
def FnApplyIsKleenePerRowSaid : Prop := fnApplyIsKleenePerRowRow.holds Try.pinned (OpenSpec.ofChange fnApplyIsKleenePerRowSpec)

/-- ITS FALSE NEIGHBOUR: 'it returns false'. Refute it at one input. -/
def fnApplyIsKleenePerRowWrong : ChangeSpec := { name := "fnApplyIsKleenePerRow", fn := fun _ => fun
  | [d1, d2, d3, d4, d5, d6, d7] => { results := [.lit (.bool false)], args := [d1, d2, d3, d4, d5, d6, d7] }
  | _ => none }
def FnApplyIsKleenePerRowWrongFalsely : Prop := fnApplyIsKleenePerRowRow.holds Try.pinned (OpenSpec.ofChange fnApplyIsKleenePerRowWrong)

/-- 'zzlaws_root_g1.FnApplyFastPathAgreesWithStated': WHATEVER THE INPUT: true; the input reads as it did. -/
def fnApplyFastPathAgreesWithStatedSpec : ChangeSpec := { name := "fnApplyFastPathAgreesWithStated", fn := fun _ => fun
  | [d1, d2, d3] => { results := [.lit (.bool true)], args := [d1, d2, d3] }
  | _ => none }
def fnApplyFastPathAgreesWithStatedRow : OpenClaim := { program := "qxb6001672a", sum := "fb47f0ca690f1fa70b9255de9149eaa8737920acfe984bb9cccef81704b16cee", func := "example.com/chronorow/chronorow/zzlaws_root_g1.FnApplyFastPathAgreesWithStated", spec := "fnApplyFastPathAgreesWithStated", apart := false }
def FnApplyFastPathAgreesWithStatedSaid : Prop := fnApplyFastPathAgreesWithStatedRow.holds Try.pinned (OpenSpec.ofChange fnApplyFastPathAgreesWithStatedSpec)

/-- ITS FALSE NEIGHBOUR: 'it returns false'. Refute it at one input. -/
def fnApplyFastPathAgreesWithStatedWrong : ChangeSpec := { name := "fnApplyFastPathAgreesWithStated", fn := fun _ => fun
  | [d1, d2, d3] => { results := [.lit (.bool false)], args := [d1, d2, d3] }
  | _ => none }
def FnApplyFastPathAgreesWithStatedWrongFalsely : Prop := fnApplyFastPathAgreesWithStatedRow.holds Try.pinned (OpenSpec.ofChange fnApplyFastPathAgreesWithStatedWrong)

/-- 'zzlaws_root_g1.FnStateOfAgreesWithApply': WHATEVER THE INPUT: true; the input reads as it did. -/
def fnStateOfAgreesWithApplySpec : ChangeSpec := { name := "fnStateOfAgreesWithApply", fn := fun _ => fun
  | [d1, d2, d3, d4] => { results := [.lit (.bool true)], args := [d1, d2, d3, d4] }
  | _ => none }
def fnStateOfAgreesWithApplyRow : OpenClaim := { program := "qxb6001672a", sum := "fb47f0ca690f1fa70b9255de9149eaa8737920acfe984bb9cccef81704b16cee", func := "example.com/chronorow/chronorow/zzlaws_root_g1.FnStateOfAgreesWithApply", spec := "fnStateOfAgreesWithApply", apart := false }
def FnStateOfAgreesWithApplySaid : Prop := fnStateOfAgreesWithApplyRow.holds Try.pinned (OpenSpec.ofChange fnStateOfAgreesWithApplySpec)

/-- ITS FALSE NEIGHBOUR: 'it returns false'. Refute it at one input. -/
def fnStateOfAgreesWithApplyWrong : ChangeSpec := { name := "fnStateOfAgreesWithApply", fn := fun _ => fun
  | [d1, d2, d3, d4] => { results := [.lit (.bool false)], args := [d1, d2, d3, d4] }
  | _ => none }
def FnStateOfAgreesWithApplyWrongFalsely : Prop := fnStateOfAgreesWithApplyRow.holds Try.pinned (OpenSpec.ofChange fnStateOfAgreesWithApplyWrong)

end Rows
end Go.Proofs.Qxb6001672a
