/-
  No cell of these rows narrows 'for every input' (looked for: loops, veiled, ifaces, maps, wideKeys, modest, calm, conditions, laid).
  DERIVED. THE GIVEN ROWS OF THIS SEAT. 5 by the template 'for every input the law returns true; each argument reads behind the call as it read before'; 0 by the template 'total and deterministic' (their statements: Qxb6601492aTotals.lean).
  GIVEN WITH THE SEED: the statements are not yours to turn. If you find one false, say at which input.
  Laid BY PROGRAM, IN A SANDBOX (cutbox-rows.mjs): the forced cells as the released guide's own fill.sh prints them over the translation 5da097e4f02c37cc… (all of the seat's roots in one cut). By AI agents, Wed Nov 11 2026. No macro, syntax, notation, axiom, sorry.
-/
import Derived.Test.Qxb6601492aChecked
import GoSem.Claim
import GoSem.ClaimJoined
import GoSem.ClaimMapViews
import Derived.JoinedTies
import Derived.KernelRfl
namespace Go.Proofs.Qxb6601492a
/- THE CELL 'sum', in the pinned program and in every row, IS THE sha256 OF THE DUMP (.gsa) THAT Qxb6601492aProg.lean LOADS. Nothing in Lean hashes anything: it is a label: what it is worth is what the hold of that sum in a sandbox is worth. -/
noncomputable def Try.pinned : Pinned := { name := "qxb6601492a", sum := "5da097e4f02c37cc66219c30f619226db74ad1780ca454afe39b944502dda49b", checked := Try.checked }
namespace Rows
def none {H : Type} : Left H := { results := [], args := [] }

/-- 'zzlaws_internal_strictjson_b1.FnSkipIsJSONValueEnd': WHATEVER THE INPUT: true; the input reads as it did. -/
def fnSkipIsJSONValueEndSpec : ChangeSpec := { name := "fnSkipIsJSONValueEnd", fn := fun _ => fun
  | [d1, d2] => { results := [.lit (.bool true)], args := [d1, d2] }
  | _ => none }
def fnSkipIsJSONValueEndRow : OpenClaim := { program := "qxb6601492a", sum := "5da097e4f02c37cc66219c30f619226db74ad1780ca454afe39b944502dda49b", func := "example.com/attune/attune/zzlaws_internal_strictjson_b1.FnSkipIsJSONValueEnd", spec := "fnSkipIsJSONValueEnd", recurses := true, apart := false }
def FnSkipIsJSONValueEndSaid : Prop := fnSkipIsJSONValueEndRow.holds Try.pinned (OpenSpec.ofChange fnSkipIsJSONValueEndSpec)

/-- ITS FALSE NEIGHBOUR: 'it returns false'. Refute it at one input. -/
def fnSkipIsJSONValueEndWrong : ChangeSpec := { name := "fnSkipIsJSONValueEnd", fn := fun _ => fun
  | [d1, d2] => { results := [.lit (.bool false)], args := [d1, d2] }
  | _ => none }
def FnSkipIsJSONValueEndWrongFalsely : Prop := fnSkipIsJSONValueEndRow.holds Try.pinned (OpenSpec.ofChange fnSkipIsJSONValueEndWrong)

/-- 'zzlaws_internal_strictjson_b1.FnSkipObjectMembersAddUp': WHATEVER THE INPUT: true; the input reads as it did. -/
def fnSkipObjectMembersAddUpSpec : ChangeSpec := { name := "fnSkipObjectMembersAddUp", fn := fun _ => fun
  | [d1, d2] => { results := [.lit (.bool true)], args := [d1, d2] }
  | _ => none }
def fnSkipObjectMembersAddUpRow : OpenClaim := { program := "qxb6601492a", sum := "5da097e4f02c37cc66219c30f619226db74ad1780ca454afe39b944502dda49b", func := "example.com/attune/attune/zzlaws_internal_strictjson_b1.FnSkipObjectMembersAddUp", spec := "fnSkipObjectMembersAddUp", recurses := true, apart := false }
def FnSkipObjectMembersAddUpSaid : Prop := fnSkipObjectMembersAddUpRow.holds Try.pinned (OpenSpec.ofChange fnSkipObjectMembersAddUpSpec)

/-- ITS FALSE NEIGHBOUR: 'it returns false'. Refute it at one input. -/
def fnSkipObjectMembersAddUpWrong : ChangeSpec := { name := "fnSkipObjectMembersAddUp", fn := fun _ => fun
  | [d1, d2] => { results := [.lit (.bool false)], args := [d1, d2] }
  | _ => none }
def FnSkipObjectMembersAddUpWrongFalsely : Prop := fnSkipObjectMembersAddUpRow.holds Try.pinned (OpenSpec.ofChange fnSkipObjectMembersAddUpWrong)

/-- 'zzlaws_internal_strictjson_b1.FnSkipStringFirstUnescapedQuote': WHATEVER THE INPUT: true; the input reads as it did. -/
def fnSkipStringFirstUnescapedQuoteSpec : ChangeSpec := { name := "fnSkipStringFirstUnescapedQuote", fn := fun _ => fun
  | [d1, d2] => { results := [.lit (.bool true)], args := [d1, d2] }
  | _ => none }
def fnSkipStringFirstUnescapedQuoteRow : OpenClaim := { program := "qxb6601492a", sum := "5da097e4f02c37cc66219c30f619226db74ad1780ca454afe39b944502dda49b", func := "example.com/attune/attune/zzlaws_internal_strictjson_b1.FnSkipStringFirstUnescapedQuote", spec := "fnSkipStringFirstUnescapedQuote", apart := false }
def FnSkipStringFirstUnescapedQuoteSaid : Prop := fnSkipStringFirstUnescapedQuoteRow.holds Try.pinned (OpenSpec.ofChange fnSkipStringFirstUnescapedQuoteSpec)

/-- ITS FALSE NEIGHBOUR: 'it returns false'. Refute it at one input. -/
def fnSkipStringFirstUnescapedQuoteWrong : ChangeSpec := { name := "fnSkipStringFirstUnescapedQuote", fn := fun _ => fun
  | [d1, d2] => { results := [.lit (.bool false)], args := [d1, d2] }
  | _ => none }
def FnSkipStringFirstUnescapedQuoteWrongFalsely : Prop := fnSkipStringFirstUnescapedQuoteRow.holds Try.pinned (OpenSpec.ofChange fnSkipStringFirstUnescapedQuoteWrong)

/-- 'zzlaws_internal_strictjson_b1.FnAppendUnitWritesOneCanonicalUnit': WHATEVER THE INPUT: true; the input reads as it did. -/
def fnAppendUnitWritesOneCanonicalUnitSpec : ChangeSpec := { name := "fnAppendUnitWritesOneCanonicalUnit", fn := fun _ => fun
  | [d1, d2] => { results := [.lit (.bool true)], args := [d1, d2] }
  | _ => none }
def fnAppendUnitWritesOneCanonicalUnitRow : OpenClaim := { program := "qxb6601492a", sum := "5da097e4f02c37cc66219c30f619226db74ad1780ca454afe39b944502dda49b", func := "example.com/attune/attune/zzlaws_internal_strictjson_b1.FnAppendUnitWritesOneCanonicalUnit", spec := "fnAppendUnitWritesOneCanonicalUnit", apart := false }
def FnAppendUnitWritesOneCanonicalUnitSaid : Prop := fnAppendUnitWritesOneCanonicalUnitRow.holds Try.pinned (OpenSpec.ofChange fnAppendUnitWritesOneCanonicalUnitSpec)

/-- ITS FALSE NEIGHBOUR: 'it returns false'. Refute it at one input. -/
def fnAppendUnitWritesOneCanonicalUnitWrong : ChangeSpec := { name := "fnAppendUnitWritesOneCanonicalUnit", fn := fun _ => fun
  | [d1, d2] => { results := [.lit (.bool false)], args := [d1, d2] }
  | _ => none }
def FnAppendUnitWritesOneCanonicalUnitWrongFalsely : Prop := fnAppendUnitWritesOneCanonicalUnitRow.holds Try.pinned (OpenSpec.ofChange fnAppendUnitWritesOneCanonicalUnitWrong)

/-- 'zzlaws_internal_strictjson_b1.FnCanonicalStringRoundTrip': WHATEVER THE INPUT: true; the input reads as it did. -/
def fnCanonicalStringRoundTripSpec : ChangeSpec := { name := "fnCanonicalStringRoundTrip", fn := fun _ => fun
  | [d] => { results := [.lit (.bool true)], args := [d] }
  | _ => none }
def fnCanonicalStringRoundTripRow : OpenClaim := { program := "qxb6601492a", sum := "5da097e4f02c37cc66219c30f619226db74ad1780ca454afe39b944502dda49b", func := "example.com/attune/attune/zzlaws_internal_strictjson_b1.FnCanonicalStringRoundTrip", spec := "fnCanonicalStringRoundTrip", recurses := true, apart := false }
def FnCanonicalStringRoundTripSaid : Prop := fnCanonicalStringRoundTripRow.holds Try.pinned (OpenSpec.ofChange fnCanonicalStringRoundTripSpec)

/-- ITS FALSE NEIGHBOUR: 'it returns false'. Refute it at one input. -/
def fnCanonicalStringRoundTripWrong : ChangeSpec := { name := "fnCanonicalStringRoundTrip", fn := fun _ => fun
  | [d] => { results := [.lit (.bool false)], args := [d] }
  | _ => none }
def FnCanonicalStringRoundTripWrongFalsely : Prop := fnCanonicalStringRoundTripRow.holds Try.pinned (OpenSpec.ofChange fnCanonicalStringRoundTripWrong)

end Rows
end Go.Proofs.Qxb6601492a
