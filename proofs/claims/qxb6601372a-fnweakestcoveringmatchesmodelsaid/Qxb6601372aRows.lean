/-
  No cell of these rows narrows 'for every input' (looked for: loops, veiled, ifaces, maps, wideKeys, modest, calm, conditions, laid).
  DERIVED. THE GIVEN ROWS OF THIS SEAT. 6 by the template 'for every input the law returns true; each argument reads behind the call as it read before'; 0 by the template 'total and deterministic' (their statements: Qxb6601372aTotals.lean).
  GIVEN WITH THE SEED: the statements are not yours to turn. If you find one false, say at which input.
  Laid BY PROGRAM, IN A SANDBOX (cutbox-rows.mjs): the forced cells as the released guide's own fill.sh prints them over the translation 964f262e955267e3… (all of the seat's roots in one cut). By AI agents, Wed Nov 11 2026. No macro, syntax, notation, axiom, sorry.
-/
import Derived.Test.Qxb6601372aChecked
import GoSem.Claim
import GoSem.ClaimJoined
import GoSem.ClaimMapViews
import Derived.JoinedTies
import Derived.KernelRfl
namespace Go.Proofs.Qxb6601372a
/- THE CELL 'sum', in the pinned program and in every row, IS THE sha256 OF THE DUMP (.gsa) THAT Qxb6601372aProg.lean LOADS. Nothing in Lean hashes anything: it is a label: what it is worth is what the hold of that sum in a sandbox is worth. -/
noncomputable def Try.pinned : Pinned := { name := "qxb6601372a", sum := "964f262e955267e399040a8226dfae8310a46f81015bb1f048d1bce01449b265", checked := Try.checked }
namespace Rows
def none {H : Type} : Left H := { results := [], args := [] }

/-- 'zzlaws_root_b1.FnFlatNameIsByteTest': WHATEVER THE INPUT: true; the input reads as it did. -/
def fnFlatNameIsByteTestSpec : ChangeSpec := { name := "fnFlatNameIsByteTest", fn := fun _ => fun
  | [d] => { results := [.lit (.bool true)], args := [d] }
  | _ => none }
def fnFlatNameIsByteTestRow : OpenClaim := { program := "qxb6601372a", sum := "964f262e955267e399040a8226dfae8310a46f81015bb1f048d1bce01449b265", func := "example.com/holdfast/holdfast/zzlaws_root_b1.FnFlatNameIsByteTest", spec := "fnFlatNameIsByteTest", plainKeys := false, apart := false }
def FnFlatNameIsByteTestSaid : Prop := fnFlatNameIsByteTestRow.holds Try.pinned (OpenSpec.ofChange fnFlatNameIsByteTestSpec)

/-- ITS FALSE NEIGHBOUR: 'it returns false'. Refute it at one input. -/
def fnFlatNameIsByteTestWrong : ChangeSpec := { name := "fnFlatNameIsByteTest", fn := fun _ => fun
  | [d] => { results := [.lit (.bool false)], args := [d] }
  | _ => none }
def FnFlatNameIsByteTestWrongFalsely : Prop := fnFlatNameIsByteTestRow.holds Try.pinned (OpenSpec.ofChange fnFlatNameIsByteTestWrong)

/-- 'zzlaws_root_b1.FnFlatNameConcat': WHATEVER THE INPUT: true; the input reads as it did. -/
def fnFlatNameConcatSpec : ChangeSpec := { name := "fnFlatNameConcat", fn := fun _ => fun
  | [d1, d2] => { results := [.lit (.bool true)], args := [d1, d2] }
  | _ => none }
def fnFlatNameConcatRow : OpenClaim := { program := "qxb6601372a", sum := "964f262e955267e399040a8226dfae8310a46f81015bb1f048d1bce01449b265", func := "example.com/holdfast/holdfast/zzlaws_root_b1.FnFlatNameConcat", spec := "fnFlatNameConcat", plainKeys := false, apart := false }
def FnFlatNameConcatSaid : Prop := fnFlatNameConcatRow.holds Try.pinned (OpenSpec.ofChange fnFlatNameConcatSpec)

/-- ITS FALSE NEIGHBOUR: 'it returns false'. Refute it at one input. -/
def fnFlatNameConcatWrong : ChangeSpec := { name := "fnFlatNameConcat", fn := fun _ => fun
  | [d1, d2] => { results := [.lit (.bool false)], args := [d1, d2] }
  | _ => none }
def FnFlatNameConcatWrongFalsely : Prop := fnFlatNameConcatRow.holds Try.pinned (OpenSpec.ofChange fnFlatNameConcatWrong)

/-- 'zzlaws_root_b1.FnWeakestCoveringMatchesModel': WHATEVER THE INPUT: true; the input reads as it did. -/
def fnWeakestCoveringMatchesModelSpec : ChangeSpec := { name := "fnWeakestCoveringMatchesModel", fn := fun _ => fun
  | [d1, d2, d3] => { results := [.lit (.bool true)], args := [d1, d2, d3] }
  | _ => none }
def fnWeakestCoveringMatchesModelRow : OpenClaim := { program := "qxb6601372a", sum := "964f262e955267e399040a8226dfae8310a46f81015bb1f048d1bce01449b265", func := "example.com/holdfast/holdfast/zzlaws_root_b1.FnWeakestCoveringMatchesModel", spec := "fnWeakestCoveringMatchesModel", unfollowed := true, recurses := true, plainKeys := false, apart := false }
def FnWeakestCoveringMatchesModelSaid : Prop := fnWeakestCoveringMatchesModelRow.holds Try.pinned (OpenSpec.ofChange fnWeakestCoveringMatchesModelSpec)

/-- ITS FALSE NEIGHBOUR: 'it returns false'. Refute it at one input. -/
def fnWeakestCoveringMatchesModelWrong : ChangeSpec := { name := "fnWeakestCoveringMatchesModel", fn := fun _ => fun
  | [d1, d2, d3] => { results := [.lit (.bool false)], args := [d1, d2, d3] }
  | _ => none }
def FnWeakestCoveringMatchesModelWrongFalsely : Prop := fnWeakestCoveringMatchesModelRow.holds Try.pinned (OpenSpec.ofChange fnWeakestCoveringMatchesModelWrong)

/-- 'zzlaws_root_b1.FnWeakestCoveringAbsorbs': WHATEVER THE INPUT: true; the input reads as it did. -/
def fnWeakestCoveringAbsorbsSpec : ChangeSpec := { name := "fnWeakestCoveringAbsorbs", fn := fun _ => fun
  | [d1, d2, d3] => { results := [.lit (.bool true)], args := [d1, d2, d3] }
  | _ => none }
def fnWeakestCoveringAbsorbsRow : OpenClaim := { program := "qxb6601372a", sum := "964f262e955267e399040a8226dfae8310a46f81015bb1f048d1bce01449b265", func := "example.com/holdfast/holdfast/zzlaws_root_b1.FnWeakestCoveringAbsorbs", spec := "fnWeakestCoveringAbsorbs", unfollowed := true, recurses := true, plainKeys := false, apart := false }
def FnWeakestCoveringAbsorbsSaid : Prop := fnWeakestCoveringAbsorbsRow.holds Try.pinned (OpenSpec.ofChange fnWeakestCoveringAbsorbsSpec)

/-- ITS FALSE NEIGHBOUR: 'it returns false'. Refute it at one input. -/
def fnWeakestCoveringAbsorbsWrong : ChangeSpec := { name := "fnWeakestCoveringAbsorbs", fn := fun _ => fun
  | [d1, d2, d3] => { results := [.lit (.bool false)], args := [d1, d2, d3] }
  | _ => none }
def FnWeakestCoveringAbsorbsWrongFalsely : Prop := fnWeakestCoveringAbsorbsRow.holds Try.pinned (OpenSpec.ofChange fnWeakestCoveringAbsorbsWrong)

/-- 'zzlaws_root_b1.FnRemoveCountsOneFewer': WHATEVER THE INPUT: true; the input reads as it did. -/
def fnRemoveCountsOneFewerSpec : ChangeSpec := { name := "fnRemoveCountsOneFewer", fn := fun _ => fun
  | [d1, d2, d3] => { results := [.lit (.bool true)], args := [d1, d2, d3] }
  | _ => none }
def fnRemoveCountsOneFewerRow : OpenClaim := { program := "qxb6601372a", sum := "964f262e955267e399040a8226dfae8310a46f81015bb1f048d1bce01449b265", func := "example.com/holdfast/holdfast/zzlaws_root_b1.FnRemoveCountsOneFewer", spec := "fnRemoveCountsOneFewer", plainKeys := false, apart := false }
def FnRemoveCountsOneFewerSaid : Prop := fnRemoveCountsOneFewerRow.holds Try.pinned (OpenSpec.ofChange fnRemoveCountsOneFewerSpec)

/-- ITS FALSE NEIGHBOUR: 'it returns false'. Refute it at one input. -/
def fnRemoveCountsOneFewerWrong : ChangeSpec := { name := "fnRemoveCountsOneFewer", fn := fun _ => fun
  | [d1, d2, d3] => { results := [.lit (.bool false)], args := [d1, d2, d3] }
  | _ => none }
def FnRemoveCountsOneFewerWrongFalsely : Prop := fnRemoveCountsOneFewerRow.holds Try.pinned (OpenSpec.ofChange fnRemoveCountsOneFewerWrong)

/-- 'zzlaws_root_b1.FnRemoveEachCountEmpties': WHATEVER THE INPUT: true; the input reads as it did. -/
def fnRemoveEachCountEmptiesSpec : ChangeSpec := { name := "fnRemoveEachCountEmpties", fn := fun _ => fun
  | [d1, d2] => { results := [.lit (.bool true)], args := [d1, d2] }
  | _ => none }
def fnRemoveEachCountEmptiesRow : OpenClaim := { program := "qxb6601372a", sum := "964f262e955267e399040a8226dfae8310a46f81015bb1f048d1bce01449b265", func := "example.com/holdfast/holdfast/zzlaws_root_b1.FnRemoveEachCountEmpties", spec := "fnRemoveEachCountEmpties", plainKeys := false, apart := false }
def FnRemoveEachCountEmptiesSaid : Prop := fnRemoveEachCountEmptiesRow.holds Try.pinned (OpenSpec.ofChange fnRemoveEachCountEmptiesSpec)

/-- ITS FALSE NEIGHBOUR: 'it returns false'. Refute it at one input. -/
def fnRemoveEachCountEmptiesWrong : ChangeSpec := { name := "fnRemoveEachCountEmpties", fn := fun _ => fun
  | [d1, d2] => { results := [.lit (.bool false)], args := [d1, d2] }
  | _ => none }
def FnRemoveEachCountEmptiesWrongFalsely : Prop := fnRemoveEachCountEmptiesRow.holds Try.pinned (OpenSpec.ofChange fnRemoveEachCountEmptiesWrong)

end Rows
end Go.Proofs.Qxb6601372a
