/-
  No cell of these rows narrows 'for every input' (looked for: loops, veiled, ifaces, maps, wideKeys, modest, calm, conditions, laid).
  DERIVED. THE GIVEN ROWS OF THIS SEAT. 6 by the template 'for every input the law returns true; each argument reads behind the call as it read before'; 0 by the template 'total and deterministic' (their statements: Qxb6601367aTotals.lean).
  GIVEN WITH THE SEED: the statements are not yours to turn. If you find one false, say at which input.
  Laid BY PROGRAM, IN A SANDBOX (cutbox-rows.mjs): the forced cells as the released guide's own fill.sh prints them over the translation d5ac141c73d62307… (all of the seat's roots in one cut). By AI agents, Wed Nov 11 2026. No macro, syntax, notation, axiom, sorry.
-/
import Derived.Test.Qxb6601367aChecked
import GoSem.Claim
import GoSem.ClaimJoined
import GoSem.ClaimMapViews
import Derived.JoinedTies
import Derived.KernelRfl
namespace Go.Proofs.Qxb6601367a
/- THE CELL 'sum', in the pinned program and in every row, IS THE sha256 OF THE DUMP (.gsa) THAT Qxb6601367aProg.lean LOADS. Nothing in Lean hashes anything: it is a label: what it is worth is what the hold of that sum in a sandbox is worth. -/
noncomputable def Try.pinned : Pinned := { name := "qxb6601367a", sum := "d5ac141c73d6230783e0a79b6590cf96fab57fec6693b48cd8723b45617e674a", checked := Try.checked }
namespace Rows
def none {H : Type} : Left H := { results := [], args := [] }

/-- 'zzlaws_internal_store_b1.FnCutIsTheLeftmostLongestScan': WHATEVER THE INPUT: true; the input reads as it did. -/
def fnCutIsTheLeftmostLongestScanSpec : ChangeSpec := { name := "fnCutIsTheLeftmostLongestScan", fn := fun _ => fun
  | [d1, d2, d3] => { results := [.lit (.bool true)], args := [d1, d2, d3] }
  | _ => none }
def fnCutIsTheLeftmostLongestScanRow : OpenClaim := { program := "qxb6601367a", sum := "d5ac141c73d6230783e0a79b6590cf96fab57fec6693b48cd8723b45617e674a", func := "example.com/drover/drover/zzlaws_internal_store_b1.FnCutIsTheLeftmostLongestScan", spec := "fnCutIsTheLeftmostLongestScan", inPlace := ["internal/bytealg.IndexByte", "internal/bytealg.Index"], named := ["internal/bytealg.MaxLen"], apart := false }
def FnCutIsTheLeftmostLongestScanSaid : Prop := fnCutIsTheLeftmostLongestScanRow.holds Try.pinned (OpenSpec.ofChange fnCutIsTheLeftmostLongestScanSpec)

/-- ITS FALSE NEIGHBOUR: 'it returns false'. Refute it at one input. -/
def fnCutIsTheLeftmostLongestScanWrong : ChangeSpec := { name := "fnCutIsTheLeftmostLongestScan", fn := fun _ => fun
  | [d1, d2, d3] => { results := [.lit (.bool false)], args := [d1, d2, d3] }
  | _ => none }
def FnCutIsTheLeftmostLongestScanWrongFalsely : Prop := fnCutIsTheLeftmostLongestScanRow.holds Try.pinned (OpenSpec.ofChange fnCutIsTheLeftmostLongestScanWrong)

/-- 'zzlaws_internal_store_b1.FnCutInTwoCallsAgreesWithRedact': WHATEVER THE INPUT: true; the input reads as it did. -/
def fnCutInTwoCallsAgreesWithRedactSpec : ChangeSpec := { name := "fnCutInTwoCallsAgreesWithRedact", fn := fun _ => fun
  | [d1, d2, d3] => { results := [.lit (.bool true)], args := [d1, d2, d3] }
  | _ => none }
def fnCutInTwoCallsAgreesWithRedactRow : OpenClaim := { program := "qxb6601367a", sum := "d5ac141c73d6230783e0a79b6590cf96fab57fec6693b48cd8723b45617e674a", func := "example.com/drover/drover/zzlaws_internal_store_b1.FnCutInTwoCallsAgreesWithRedact", spec := "fnCutInTwoCallsAgreesWithRedact", inPlace := ["internal/bytealg.IndexByte", "internal/bytealg.Index"], named := ["internal/bytealg.MaxLen"], apart := false }
def FnCutInTwoCallsAgreesWithRedactSaid : Prop := fnCutInTwoCallsAgreesWithRedactRow.holds Try.pinned (OpenSpec.ofChange fnCutInTwoCallsAgreesWithRedactSpec)

/-- ITS FALSE NEIGHBOUR: 'it returns false'. Refute it at one input. -/
def fnCutInTwoCallsAgreesWithRedactWrong : ChangeSpec := { name := "fnCutInTwoCallsAgreesWithRedact", fn := fun _ => fun
  | [d1, d2, d3] => { results := [.lit (.bool false)], args := [d1, d2, d3] }
  | _ => none }
def FnCutInTwoCallsAgreesWithRedactWrongFalsely : Prop := fnCutInTwoCallsAgreesWithRedactRow.holds Try.pinned (OpenSpec.ofChange fnCutInTwoCallsAgreesWithRedactWrong)

/-- 'zzlaws_internal_store_b1.FnRedactIsTheLeftmostLongestScan': WHATEVER THE INPUT: true; the input reads as it did. -/
def fnRedactIsTheLeftmostLongestScanSpec : ChangeSpec := { name := "fnRedactIsTheLeftmostLongestScan", fn := fun _ => fun
  | [d1, d2] => { results := [.lit (.bool true)], args := [d1, d2] }
  | _ => none }
def fnRedactIsTheLeftmostLongestScanRow : OpenClaim := { program := "qxb6601367a", sum := "d5ac141c73d6230783e0a79b6590cf96fab57fec6693b48cd8723b45617e674a", func := "example.com/drover/drover/zzlaws_internal_store_b1.FnRedactIsTheLeftmostLongestScan", spec := "fnRedactIsTheLeftmostLongestScan", inPlace := ["internal/bytealg.IndexByte", "internal/bytealg.Index"], named := ["internal/bytealg.MaxLen"], apart := false }
def FnRedactIsTheLeftmostLongestScanSaid : Prop := fnRedactIsTheLeftmostLongestScanRow.holds Try.pinned (OpenSpec.ofChange fnRedactIsTheLeftmostLongestScanSpec)

/-- ITS FALSE NEIGHBOUR: 'it returns false'. Refute it at one input. -/
def fnRedactIsTheLeftmostLongestScanWrong : ChangeSpec := { name := "fnRedactIsTheLeftmostLongestScan", fn := fun _ => fun
  | [d1, d2] => { results := [.lit (.bool false)], args := [d1, d2] }
  | _ => none }
def FnRedactIsTheLeftmostLongestScanWrongFalsely : Prop := fnRedactIsTheLeftmostLongestScanRow.holds Try.pinned (OpenSpec.ofChange fnRedactIsTheLeftmostLongestScanWrong)

/-- 'zzlaws_internal_store_b1.FnRedactIsLocalAroundASeparator': WHATEVER THE INPUT: true; the input reads as it did. -/
def fnRedactIsLocalAroundASeparatorSpec : ChangeSpec := { name := "fnRedactIsLocalAroundASeparator", fn := fun _ => fun
  | [d1, d2, d3, d4] => { results := [.lit (.bool true)], args := [d1, d2, d3, d4] }
  | _ => none }
def fnRedactIsLocalAroundASeparatorRow : OpenClaim := { program := "qxb6601367a", sum := "d5ac141c73d6230783e0a79b6590cf96fab57fec6693b48cd8723b45617e674a", func := "example.com/drover/drover/zzlaws_internal_store_b1.FnRedactIsLocalAroundASeparator", spec := "fnRedactIsLocalAroundASeparator", inPlace := ["internal/bytealg.IndexByte", "internal/bytealg.Index"], named := ["internal/bytealg.MaxLen"], apart := false }
def FnRedactIsLocalAroundASeparatorSaid : Prop := fnRedactIsLocalAroundASeparatorRow.holds Try.pinned (OpenSpec.ofChange fnRedactIsLocalAroundASeparatorSpec)

/-- ITS FALSE NEIGHBOUR: 'it returns false'. Refute it at one input. -/
def fnRedactIsLocalAroundASeparatorWrong : ChangeSpec := { name := "fnRedactIsLocalAroundASeparator", fn := fun _ => fun
  | [d1, d2, d3, d4] => { results := [.lit (.bool false)], args := [d1, d2, d3, d4] }
  | _ => none }
def FnRedactIsLocalAroundASeparatorWrongFalsely : Prop := fnRedactIsLocalAroundASeparatorRow.holds Try.pinned (OpenSpec.ofChange fnRedactIsLocalAroundASeparatorWrong)

/-- 'zzlaws_internal_store_b1.FnRingWriteKeepsTheLastSizeBytes': WHATEVER THE INPUT: true; the input reads as it did. -/
def fnRingWriteKeepsTheLastSizeBytesSpec : ChangeSpec := { name := "fnRingWriteKeepsTheLastSizeBytes", fn := fun _ => fun
  | [d1, d2, d3, d4, d5] => { results := [.lit (.bool true)], args := [d1, d2, d3, d4, d5] }
  | _ => none }
def fnRingWriteKeepsTheLastSizeBytesRow : OpenClaim := { program := "qxb6601367a", sum := "d5ac141c73d6230783e0a79b6590cf96fab57fec6693b48cd8723b45617e674a", func := "example.com/drover/drover/zzlaws_internal_store_b1.FnRingWriteKeepsTheLastSizeBytes", spec := "fnRingWriteKeepsTheLastSizeBytes", apart := false }
def FnRingWriteKeepsTheLastSizeBytesSaid : Prop := fnRingWriteKeepsTheLastSizeBytesRow.holds Try.pinned (OpenSpec.ofChange fnRingWriteKeepsTheLastSizeBytesSpec)

/-- ITS FALSE NEIGHBOUR: 'it returns false'. Refute it at one input. -/
def fnRingWriteKeepsTheLastSizeBytesWrong : ChangeSpec := { name := "fnRingWriteKeepsTheLastSizeBytes", fn := fun _ => fun
  | [d1, d2, d3, d4, d5] => { results := [.lit (.bool false)], args := [d1, d2, d3, d4, d5] }
  | _ => none }
def FnRingWriteKeepsTheLastSizeBytesWrongFalsely : Prop := fnRingWriteKeepsTheLastSizeBytesRow.holds Try.pinned (OpenSpec.ofChange fnRingWriteKeepsTheLastSizeBytesWrong)

/-- 'zzlaws_internal_store_b1.FnRingWriteIsIndifferentToHowBytesAreSplit': WHATEVER THE INPUT: true; the input reads as it did. -/
def fnRingWriteIsIndifferentToHowBytesAreSplitSpec : ChangeSpec := { name := "fnRingWriteIsIndifferentToHowBytesAreSplit", fn := fun _ => fun
  | [d1, d2, d3, d4, d5, d6] => { results := [.lit (.bool true)], args := [d1, d2, d3, d4, d5, d6] }
  | _ => none }
def fnRingWriteIsIndifferentToHowBytesAreSplitRow : OpenClaim := { program := "qxb6601367a", sum := "d5ac141c73d6230783e0a79b6590cf96fab57fec6693b48cd8723b45617e674a", func := "example.com/drover/drover/zzlaws_internal_store_b1.FnRingWriteIsIndifferentToHowBytesAreSplit", spec := "fnRingWriteIsIndifferentToHowBytesAreSplit", apart := false }
def FnRingWriteIsIndifferentToHowBytesAreSplitSaid : Prop := fnRingWriteIsIndifferentToHowBytesAreSplitRow.holds Try.pinned (OpenSpec.ofChange fnRingWriteIsIndifferentToHowBytesAreSplitSpec)

/-- ITS FALSE NEIGHBOUR: 'it returns false'. Refute it at one input. -/
def fnRingWriteIsIndifferentToHowBytesAreSplitWrong : ChangeSpec := { name := "fnRingWriteIsIndifferentToHowBytesAreSplit", fn := fun _ => fun
  | [d1, d2, d3, d4, d5, d6] => { results := [.lit (.bool false)], args := [d1, d2, d3, d4, d5, d6] }
  | _ => none }
def FnRingWriteIsIndifferentToHowBytesAreSplitWrongFalsely : Prop := fnRingWriteIsIndifferentToHowBytesAreSplitRow.holds Try.pinned (OpenSpec.ofChange fnRingWriteIsIndifferentToHowBytesAreSplitWrong)

end Rows
end Go.Proofs.Qxb6601367a
