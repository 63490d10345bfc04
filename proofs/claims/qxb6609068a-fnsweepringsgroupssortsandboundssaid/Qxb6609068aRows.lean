/-
  No cell of these rows narrows 'for every input' (looked for: loops, veiled, ifaces, maps, wideKeys, modest, calm, conditions, laid).
  DERIVED. THE GIVEN ROWS OF THIS SEAT. 5 by the template 'for every input the law returns true; each argument reads behind the call as it read before'; 0 by the template 'total and deterministic' (their statements: Qxb6609068aTotals.lean).
  GIVEN WITH THE SEED: the statements are not yours to turn. If you find one false, say at which input.
  Laid BY PROGRAM, IN A SANDBOX (cutbox-rows.mjs): the forced cells as the released guide's own fill.sh prints them over the translation 6162abf3b8100121… (all of the seat's roots in one cut). By AI agents, Wed Nov 11 2026. No macro, syntax, notation, axiom, sorry.
-/
import Derived.Test.Qxb6609068aChecked
import GoSem.Claim
import GoSem.ClaimJoined
import GoSem.ClaimMapViews
import Derived.JoinedTies
import Derived.KernelRfl
namespace Go.Proofs.Qxb6609068a
/- THE CELL 'sum', in the pinned program and in every row, IS THE sha256 OF THE DUMP (.gsa) THAT Qxb6609068aProg.lean LOADS. Nothing in Lean hashes anything: it is a label: what it is worth is what the hold of that sum in a sandbox is worth. -/
noncomputable def Try.pinned : Pinned := { name := "qxb6609068a", sum := "6162abf3b81001210d54eee6621bc828b2867d756ae6dc35b80e120a30b48fdc", checked := Try.checked }
namespace Rows
def none {H : Type} : Left H := { results := [], args := [] }

/-- 'zzlaws_internal_fillrule_b1.FnBetweenIsTheOpenSegment': WHATEVER THE INPUT: true; the input reads as it did. -/
def fnBetweenIsTheOpenSegmentSpec : ChangeSpec := { name := "fnBetweenIsTheOpenSegment", fn := fun _ => fun
  | [d1, d2, d3, d4, d5, d6, d7, d8] => { results := [.lit (.bool true)], args := [d1, d2, d3, d4, d5, d6, d7, d8] }
  | _ => none }
def fnBetweenIsTheOpenSegmentRow : OpenClaim := { program := "qxb6609068a", sum := "6162abf3b81001210d54eee6621bc828b2867d756ae6dc35b80e120a30b48fdc", func := "example.com/inkbyte/inkbyte/zzlaws_internal_fillrule_b1.FnBetweenIsTheOpenSegment", spec := "fnBetweenIsTheOpenSegment", apart := false }
def FnBetweenIsTheOpenSegmentSaid : Prop := fnBetweenIsTheOpenSegmentRow.holds Try.pinned (OpenSpec.ofChange fnBetweenIsTheOpenSegmentSpec)

/-- ITS FALSE NEIGHBOUR: 'it returns false'. Refute it at one input. -/
def fnBetweenIsTheOpenSegmentWrong : ChangeSpec := { name := "fnBetweenIsTheOpenSegment", fn := fun _ => fun
  | [d1, d2, d3, d4, d5, d6, d7, d8] => { results := [.lit (.bool false)], args := [d1, d2, d3, d4, d5, d6, d7, d8] }
  | _ => none }
def FnBetweenIsTheOpenSegmentWrongFalsely : Prop := fnBetweenIsTheOpenSegmentRow.holds Try.pinned (OpenSpec.ofChange fnBetweenIsTheOpenSegmentWrong)

/-- 'zzlaws_internal_fillrule_b1.FnBetweenSplitsAtAnInnerPoint': WHATEVER THE INPUT: true; the input reads as it did. -/
def fnBetweenSplitsAtAnInnerPointSpec : ChangeSpec := { name := "fnBetweenSplitsAtAnInnerPoint", fn := fun _ => fun
  | [d1, d2, d3, d4, d5, d6, d7, d8] => { results := [.lit (.bool true)], args := [d1, d2, d3, d4, d5, d6, d7, d8] }
  | _ => none }
def fnBetweenSplitsAtAnInnerPointRow : OpenClaim := { program := "qxb6609068a", sum := "6162abf3b81001210d54eee6621bc828b2867d756ae6dc35b80e120a30b48fdc", func := "example.com/inkbyte/inkbyte/zzlaws_internal_fillrule_b1.FnBetweenSplitsAtAnInnerPoint", spec := "fnBetweenSplitsAtAnInnerPoint", apart := false }
def FnBetweenSplitsAtAnInnerPointSaid : Prop := fnBetweenSplitsAtAnInnerPointRow.holds Try.pinned (OpenSpec.ofChange fnBetweenSplitsAtAnInnerPointSpec)

/-- ITS FALSE NEIGHBOUR: 'it returns false'. Refute it at one input. -/
def fnBetweenSplitsAtAnInnerPointWrong : ChangeSpec := { name := "fnBetweenSplitsAtAnInnerPoint", fn := fun _ => fun
  | [d1, d2, d3, d4, d5, d6, d7, d8] => { results := [.lit (.bool false)], args := [d1, d2, d3, d4, d5, d6, d7, d8] }
  | _ => none }
def FnBetweenSplitsAtAnInnerPointWrongFalsely : Prop := fnBetweenSplitsAtAnInnerPointRow.holds Try.pinned (OpenSpec.ofChange fnBetweenSplitsAtAnInnerPointWrong)

/-- 'zzlaws_internal_fillrule_b1.FnMeetCutsWhereTheyCrossOrTouch': WHATEVER THE INPUT: true; the input reads as it did. -/
def fnMeetCutsWhereTheyCrossOrTouchSpec : ChangeSpec := { name := "fnMeetCutsWhereTheyCrossOrTouch", fn := fun _ => fun
  | [d1, d2, d3, d4] => { results := [.lit (.bool true)], args := [d1, d2, d3, d4] }
  | _ => none }
def fnMeetCutsWhereTheyCrossOrTouchRow : OpenClaim := { program := "qxb6609068a", sum := "6162abf3b81001210d54eee6621bc828b2867d756ae6dc35b80e120a30b48fdc", func := "example.com/inkbyte/inkbyte/zzlaws_internal_fillrule_b1.FnMeetCutsWhereTheyCrossOrTouch", spec := "fnMeetCutsWhereTheyCrossOrTouch", inPlace := ["math.Float64bits", "math.Float64frombits"], apart := false }
def FnMeetCutsWhereTheyCrossOrTouchSaid : Prop := fnMeetCutsWhereTheyCrossOrTouchRow.holds Try.pinned (OpenSpec.ofChange fnMeetCutsWhereTheyCrossOrTouchSpec)

/-- ITS FALSE NEIGHBOUR: 'it returns false'. Refute it at one input. -/
def fnMeetCutsWhereTheyCrossOrTouchWrong : ChangeSpec := { name := "fnMeetCutsWhereTheyCrossOrTouch", fn := fun _ => fun
  | [d1, d2, d3, d4] => { results := [.lit (.bool false)], args := [d1, d2, d3, d4] }
  | _ => none }
def FnMeetCutsWhereTheyCrossOrTouchWrongFalsely : Prop := fnMeetCutsWhereTheyCrossOrTouchRow.holds Try.pinned (OpenSpec.ofChange fnMeetCutsWhereTheyCrossOrTouchWrong)

/-- 'zzlaws_internal_fillrule_b1.FnMeetIgnoresOrderPlaceAndEarlierCuts': WHATEVER THE INPUT: true; the input reads as it did. -/
def fnMeetIgnoresOrderPlaceAndEarlierCutsSpec : ChangeSpec := { name := "fnMeetIgnoresOrderPlaceAndEarlierCuts", fn := fun _ => fun
  | [d1, d2, d3, d4, d5, d6] => { results := [.lit (.bool true)], args := [d1, d2, d3, d4, d5, d6] }
  | _ => none }
def fnMeetIgnoresOrderPlaceAndEarlierCutsRow : OpenClaim := { program := "qxb6609068a", sum := "6162abf3b81001210d54eee6621bc828b2867d756ae6dc35b80e120a30b48fdc", func := "example.com/inkbyte/inkbyte/zzlaws_internal_fillrule_b1.FnMeetIgnoresOrderPlaceAndEarlierCuts", spec := "fnMeetIgnoresOrderPlaceAndEarlierCuts", inPlace := ["math.Float64bits", "math.Float64frombits"], apart := false }
def FnMeetIgnoresOrderPlaceAndEarlierCutsSaid : Prop := fnMeetIgnoresOrderPlaceAndEarlierCutsRow.holds Try.pinned (OpenSpec.ofChange fnMeetIgnoresOrderPlaceAndEarlierCutsSpec)

/-- ITS FALSE NEIGHBOUR: 'it returns false'. Refute it at one input. -/
def fnMeetIgnoresOrderPlaceAndEarlierCutsWrong : ChangeSpec := { name := "fnMeetIgnoresOrderPlaceAndEarlierCuts", fn := fun _ => fun
  | [d1, d2, d3, d4, d5, d6] => { results := [.lit (.bool false)], args := [d1, d2, d3, d4, d5, d6] }
  | _ => none }
def FnMeetIgnoresOrderPlaceAndEarlierCutsWrongFalsely : Prop := fnMeetIgnoresOrderPlaceAndEarlierCutsRow.holds Try.pinned (OpenSpec.ofChange fnMeetIgnoresOrderPlaceAndEarlierCutsWrong)

/-- 'zzlaws_internal_fillrule_b1.FnSweepRingsGroupsSortsAndBounds': WHATEVER THE INPUT: true; the input reads as it did. -/
def fnSweepRingsGroupsSortsAndBoundsSpec : ChangeSpec := { name := "fnSweepRingsGroupsSortsAndBounds", fn := fun _ => fun
  | [d] => { results := [.lit (.bool true)], args := [d] }
  | _ => none }
def fnSweepRingsGroupsSortsAndBoundsRow : OpenClaim := { program := "qxb6609068a", sum := "6162abf3b81001210d54eee6621bc828b2867d756ae6dc35b80e120a30b48fdc", func := "example.com/inkbyte/inkbyte/zzlaws_internal_fillrule_b1.FnSweepRingsGroupsSortsAndBounds", spec := "fnSweepRingsGroupsSortsAndBounds", inPlace := ["internal/reflectlite.ValueOf", "internal/reflectlite.Swapper", "(internal/reflectlite.Value).Len"], unfollowed := true, recurses := true, apart := false }
def FnSweepRingsGroupsSortsAndBoundsSaid : Prop := fnSweepRingsGroupsSortsAndBoundsRow.holds Try.pinned (OpenSpec.ofChange fnSweepRingsGroupsSortsAndBoundsSpec)

/-- ITS FALSE NEIGHBOUR: 'it returns false'. Refute it at one input. -/
def fnSweepRingsGroupsSortsAndBoundsWrong : ChangeSpec := { name := "fnSweepRingsGroupsSortsAndBounds", fn := fun _ => fun
  | [d] => { results := [.lit (.bool false)], args := [d] }
  | _ => none }
def FnSweepRingsGroupsSortsAndBoundsWrongFalsely : Prop := fnSweepRingsGroupsSortsAndBoundsRow.holds Try.pinned (OpenSpec.ofChange fnSweepRingsGroupsSortsAndBoundsWrong)

end Rows
end Go.Proofs.Qxb6609068a
