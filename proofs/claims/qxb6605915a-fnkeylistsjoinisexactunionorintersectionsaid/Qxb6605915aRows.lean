/-
  No cell of these rows narrows 'for every input' (looked for: loops, veiled, ifaces, maps, wideKeys, modest, calm, conditions, laid).
  DERIVED. THE GIVEN ROWS OF THIS SEAT. 7 by the template 'for every input the law returns true; each argument reads behind the call as it read before'; 0 by the template 'total and deterministic' (their statements: Qxb6605915aTotals.lean).
  GIVEN WITH THE SEED: the statements are not yours to turn. If you find one false, say at which input.
  Laid BY PROGRAM, IN A SANDBOX (cutbox-rows.mjs): the forced cells as the released guide's own fill.sh prints them over the translation e4759c55cf359b3b… (all of the seat's roots in one cut). By AI agents, Wed Nov 11 2026. No macro, syntax, notation, axiom, sorry.
-/
import Derived.Test.Qxb6605915aChecked
import GoSem.Claim
import GoSem.ClaimJoined
import GoSem.ClaimMapViews
import Derived.JoinedTies
import Derived.KernelRfl
namespace Go.Proofs.Qxb6605915a
/- THE CELL 'sum', in the pinned program and in every row, IS THE sha256 OF THE DUMP (.gsa) THAT Qxb6605915aProg.lean LOADS. Nothing in Lean hashes anything: it is a label: what it is worth is what the hold of that sum in a sandbox is worth. -/
noncomputable def Try.pinned : Pinned := { name := "qxb6605915a", sum := "e4759c55cf359b3b5e5eda87309ebc2270346c4f4018ce26089fbc2bcdf36b1b", checked := Try.checked }
namespace Rows
def none {H : Type} : Left H := { results := [], args := [] }

/-- 'zzlaws_pkg_coupon_b1.FnKeyListsJoinIsExactUnionOrIntersection': WHATEVER THE INPUT: true; the input reads as it did. -/
def fnKeyListsJoinIsExactUnionOrIntersectionSpec : ChangeSpec := { name := "fnKeyListsJoinIsExactUnionOrIntersection", fn := fun _ => fun
  | [d1, d2, d3, d4, d5] => { results := [.lit (.bool true)], args := [d1, d2, d3, d4, d5] }
  | _ => none }
def fnKeyListsJoinIsExactUnionOrIntersectionRow : OpenClaim := { program := "qxb6605915a", sum := "e4759c55cf359b3b5e5eda87309ebc2270346c4f4018ce26089fbc2bcdf36b1b", func := "example.com/vouchlane/vouchlane/zzlaws_pkg_coupon_b1.FnKeyListsJoinIsExactUnionOrIntersection", spec := "fnKeyListsJoinIsExactUnionOrIntersection", inPlace := ["internal/bytealg.abigen_runtime_cmpstring", "internal/abi.NoEscape", "internal/bytealg.MakeNoZero"], unfollowed := true, recurses := true, apart := false }
def FnKeyListsJoinIsExactUnionOrIntersectionSaid : Prop := fnKeyListsJoinIsExactUnionOrIntersectionRow.holds Try.pinned (OpenSpec.ofChange fnKeyListsJoinIsExactUnionOrIntersectionSpec)

/-- ITS FALSE NEIGHBOUR: 'it returns false'. Refute it at one input. -/
def fnKeyListsJoinIsExactUnionOrIntersectionWrong : ChangeSpec := { name := "fnKeyListsJoinIsExactUnionOrIntersection", fn := fun _ => fun
  | [d1, d2, d3, d4, d5] => { results := [.lit (.bool false)], args := [d1, d2, d3, d4, d5] }
  | _ => none }
def FnKeyListsJoinIsExactUnionOrIntersectionWrongFalsely : Prop := fnKeyListsJoinIsExactUnionOrIntersectionRow.holds Try.pinned (OpenSpec.ofChange fnKeyListsJoinIsExactUnionOrIntersectionWrong)

/-- 'zzlaws_pkg_coupon_b1.FnKeyListsJoinAnyAgreesWithTextSet': WHATEVER THE INPUT: true; the input reads as it did. -/
def fnKeyListsJoinAnyAgreesWithTextSetSpec : ChangeSpec := { name := "fnKeyListsJoinAnyAgreesWithTextSet", fn := fun _ => fun
  | [d1, d2, d3] => { results := [.lit (.bool true)], args := [d1, d2, d3] }
  | _ => none }
def fnKeyListsJoinAnyAgreesWithTextSetRow : OpenClaim := { program := "qxb6605915a", sum := "e4759c55cf359b3b5e5eda87309ebc2270346c4f4018ce26089fbc2bcdf36b1b", func := "example.com/vouchlane/vouchlane/zzlaws_pkg_coupon_b1.FnKeyListsJoinAnyAgreesWithTextSet", spec := "fnKeyListsJoinAnyAgreesWithTextSet", inPlace := ["internal/bytealg.abigen_runtime_cmpstring", "internal/abi.NoEscape", "internal/bytealg.MakeNoZero"], unfollowed := true, recurses := true, apart := false }
def FnKeyListsJoinAnyAgreesWithTextSetSaid : Prop := fnKeyListsJoinAnyAgreesWithTextSetRow.holds Try.pinned (OpenSpec.ofChange fnKeyListsJoinAnyAgreesWithTextSetSpec)

/-- ITS FALSE NEIGHBOUR: 'it returns false'. Refute it at one input. -/
def fnKeyListsJoinAnyAgreesWithTextSetWrong : ChangeSpec := { name := "fnKeyListsJoinAnyAgreesWithTextSet", fn := fun _ => fun
  | [d1, d2, d3] => { results := [.lit (.bool false)], args := [d1, d2, d3] }
  | _ => none }
def FnKeyListsJoinAnyAgreesWithTextSetWrongFalsely : Prop := fnKeyListsJoinAnyAgreesWithTextSetRow.holds Try.pinned (OpenSpec.ofChange fnKeyListsJoinAnyAgreesWithTextSetWrong)

/-- 'zzlaws_pkg_coupon_b1.FnTextSetIsSortedDistinctPackedSet': WHATEVER THE INPUT: true; the input reads as it did. -/
def fnTextSetIsSortedDistinctPackedSetSpec : ChangeSpec := { name := "fnTextSetIsSortedDistinctPackedSet", fn := fun _ => fun
  | [d] => { results := [.lit (.bool true)], args := [d] }
  | _ => none }
def fnTextSetIsSortedDistinctPackedSetRow : OpenClaim := { program := "qxb6605915a", sum := "e4759c55cf359b3b5e5eda87309ebc2270346c4f4018ce26089fbc2bcdf36b1b", func := "example.com/vouchlane/vouchlane/zzlaws_pkg_coupon_b1.FnTextSetIsSortedDistinctPackedSet", spec := "fnTextSetIsSortedDistinctPackedSet", inPlace := ["internal/bytealg.abigen_runtime_cmpstring", "internal/abi.NoEscape", "internal/bytealg.MakeNoZero"], unfollowed := true, recurses := true, apart := false }
def FnTextSetIsSortedDistinctPackedSetSaid : Prop := fnTextSetIsSortedDistinctPackedSetRow.holds Try.pinned (OpenSpec.ofChange fnTextSetIsSortedDistinctPackedSetSpec)

/-- ITS FALSE NEIGHBOUR: 'it returns false'. Refute it at one input. -/
def fnTextSetIsSortedDistinctPackedSetWrong : ChangeSpec := { name := "fnTextSetIsSortedDistinctPackedSet", fn := fun _ => fun
  | [d] => { results := [.lit (.bool false)], args := [d] }
  | _ => none }
def FnTextSetIsSortedDistinctPackedSetWrongFalsely : Prop := fnTextSetIsSortedDistinctPackedSetRow.holds Try.pinned (OpenSpec.ofChange fnTextSetIsSortedDistinctPackedSetWrong)

/-- 'zzlaws_pkg_coupon_b1.FnTextSetIgnoresOrderAndRepeats': WHATEVER THE INPUT: true; the input reads as it did. -/
def fnTextSetIgnoresOrderAndRepeatsSpec : ChangeSpec := { name := "fnTextSetIgnoresOrderAndRepeats", fn := fun _ => fun
  | [d] => { results := [.lit (.bool true)], args := [d] }
  | _ => none }
def fnTextSetIgnoresOrderAndRepeatsRow : OpenClaim := { program := "qxb6605915a", sum := "e4759c55cf359b3b5e5eda87309ebc2270346c4f4018ce26089fbc2bcdf36b1b", func := "example.com/vouchlane/vouchlane/zzlaws_pkg_coupon_b1.FnTextSetIgnoresOrderAndRepeats", spec := "fnTextSetIgnoresOrderAndRepeats", inPlace := ["internal/bytealg.abigen_runtime_cmpstring", "internal/abi.NoEscape", "internal/bytealg.MakeNoZero"], unfollowed := true, recurses := true, apart := false }
def FnTextSetIgnoresOrderAndRepeatsSaid : Prop := fnTextSetIgnoresOrderAndRepeatsRow.holds Try.pinned (OpenSpec.ofChange fnTextSetIgnoresOrderAndRepeatsSpec)

/-- ITS FALSE NEIGHBOUR: 'it returns false'. Refute it at one input. -/
def fnTextSetIgnoresOrderAndRepeatsWrong : ChangeSpec := { name := "fnTextSetIgnoresOrderAndRepeats", fn := fun _ => fun
  | [d] => { results := [.lit (.bool false)], args := [d] }
  | _ => none }
def FnTextSetIgnoresOrderAndRepeatsWrongFalsely : Prop := fnTextSetIgnoresOrderAndRepeatsRow.holds Try.pinned (OpenSpec.ofChange fnTextSetIgnoresOrderAndRepeatsWrong)

/-- 'zzlaws_pkg_coupon_b1.FnOfferFitsIffHallCounts': WHATEVER THE INPUT: true; the input reads as it did. -/
def fnOfferFitsIffHallCountsSpec : ChangeSpec := { name := "fnOfferFitsIffHallCounts", fn := fun _ => fun
  | [d1, d2, d3, d4, d5, d6] => { results := [.lit (.bool true)], args := [d1, d2, d3, d4, d5, d6] }
  | _ => none }
def fnOfferFitsIffHallCountsRow : OpenClaim := { program := "qxb6605915a", sum := "e4759c55cf359b3b5e5eda87309ebc2270346c4f4018ce26089fbc2bcdf36b1b", func := "example.com/vouchlane/vouchlane/zzlaws_pkg_coupon_b1.FnOfferFitsIffHallCounts", spec := "fnOfferFitsIffHallCounts", apart := false }
def FnOfferFitsIffHallCountsSaid : Prop := fnOfferFitsIffHallCountsRow.holds Try.pinned (OpenSpec.ofChange fnOfferFitsIffHallCountsSpec)

/-- ITS FALSE NEIGHBOUR: 'it returns false'. Refute it at one input. -/
def fnOfferFitsIffHallCountsWrong : ChangeSpec := { name := "fnOfferFitsIffHallCounts", fn := fun _ => fun
  | [d1, d2, d3, d4, d5, d6] => { results := [.lit (.bool false)], args := [d1, d2, d3, d4, d5, d6] }
  | _ => none }
def FnOfferFitsIffHallCountsWrongFalsely : Prop := fnOfferFitsIffHallCountsRow.holds Try.pinned (OpenSpec.ofChange fnOfferFitsIffHallCountsWrong)

/-- 'zzlaws_pkg_coupon_b1.FnOfferFitsIffAtMostMostTimes': WHATEVER THE INPUT: true; the input reads as it did. -/
def fnOfferFitsIffAtMostMostTimesSpec : ChangeSpec := { name := "fnOfferFitsIffAtMostMostTimes", fn := fun _ => fun
  | [d1, d2, d3, d4, d5, d6] => { results := [.lit (.bool true)], args := [d1, d2, d3, d4, d5, d6] }
  | _ => none }
def fnOfferFitsIffAtMostMostTimesRow : OpenClaim := { program := "qxb6605915a", sum := "e4759c55cf359b3b5e5eda87309ebc2270346c4f4018ce26089fbc2bcdf36b1b", func := "example.com/vouchlane/vouchlane/zzlaws_pkg_coupon_b1.FnOfferFitsIffAtMostMostTimes", spec := "fnOfferFitsIffAtMostMostTimes", apart := false }
def FnOfferFitsIffAtMostMostTimesSaid : Prop := fnOfferFitsIffAtMostMostTimesRow.holds Try.pinned (OpenSpec.ofChange fnOfferFitsIffAtMostMostTimesSpec)

/-- ITS FALSE NEIGHBOUR: 'it returns false'. Refute it at one input. -/
def fnOfferFitsIffAtMostMostTimesWrong : ChangeSpec := { name := "fnOfferFitsIffAtMostMostTimes", fn := fun _ => fun
  | [d1, d2, d3, d4, d5, d6] => { results := [.lit (.bool false)], args := [d1, d2, d3, d4, d5, d6] }
  | _ => none }
def FnOfferFitsIffAtMostMostTimesWrongFalsely : Prop := fnOfferFitsIffAtMostMostTimesRow.holds Try.pinned (OpenSpec.ofChange fnOfferFitsIffAtMostMostTimesWrong)

/-- 'zzlaws_pkg_coupon_b1.FnTimeDescribeJSONNamesAValidRFC3339Example': WHATEVER THE INPUT: true; the input reads as it did. -/
def fnTimeDescribeJSONNamesAValidRFC3339ExampleSpec : ChangeSpec := { name := "fnTimeDescribeJSONNamesAValidRFC3339Example", fn := fun _ => fun
  | [] => { results := [.lit (.bool true)], args := [] }
  | _ => none }
def fnTimeDescribeJSONNamesAValidRFC3339ExampleRow : OpenClaim := { program := "qxb6605915a", sum := "e4759c55cf359b3b5e5eda87309ebc2270346c4f4018ce26089fbc2bcdf36b1b", func := "example.com/vouchlane/vouchlane/zzlaws_pkg_coupon_b1.FnTimeDescribeJSONNamesAValidRFC3339Example", spec := "fnTimeDescribeJSONNamesAValidRFC3339Example", apart := false }
def FnTimeDescribeJSONNamesAValidRFC3339ExampleSaid : Prop := fnTimeDescribeJSONNamesAValidRFC3339ExampleRow.holds Try.pinned (OpenSpec.ofChange fnTimeDescribeJSONNamesAValidRFC3339ExampleSpec)

/-- ITS FALSE NEIGHBOUR: 'it returns false'. Refute it at one input. -/
def fnTimeDescribeJSONNamesAValidRFC3339ExampleWrong : ChangeSpec := { name := "fnTimeDescribeJSONNamesAValidRFC3339Example", fn := fun _ => fun
  | [] => { results := [.lit (.bool false)], args := [] }
  | _ => none }
def FnTimeDescribeJSONNamesAValidRFC3339ExampleWrongFalsely : Prop := fnTimeDescribeJSONNamesAValidRFC3339ExampleRow.holds Try.pinned (OpenSpec.ofChange fnTimeDescribeJSONNamesAValidRFC3339ExampleWrong)

end Rows
end Go.Proofs.Qxb6605915a
