/-
  No cell of these rows narrows 'for every input' (looked for: loops, veiled, ifaces, maps, wideKeys, modest, calm, conditions, laid).
  DERIVED. THE GIVEN ROWS OF THIS SEAT. 3 by the template 'for every input the law returns true; each argument reads behind the call as it read before'; 0 by the template 'total and deterministic' (their statements: Qxb6608886aTotals.lean).
  GIVEN WITH THE SEED: the statements are not yours to turn. If you find one false, say at which input.
  Laid BY PROGRAM, IN A SANDBOX (cutbox-rows.mjs): the forced cells as the released guide's own fill.sh prints them over the translation 45286ae548f101c4… (all of the seat's roots in one cut). By AI agents, Wed Nov 11 2026. No macro, syntax, notation, axiom, sorry.
-/
import Derived.Test.Qxb6608886aChecked
import GoSem.Claim
import GoSem.ClaimJoined
import GoSem.ClaimMapViews
import Derived.JoinedTies
import Derived.KernelRfl
namespace Go.Proofs.Qxb6608886a
/- THE CELL 'sum', in the pinned program and in every row, IS THE sha256 OF THE DUMP (.gsa) THAT Qxb6608886aProg.lean LOADS. Nothing in Lean hashes anything: it is a label: what it is worth is what the hold of that sum in a sandbox is worth. -/
noncomputable def Try.pinned : Pinned := { name := "qxb6608886a", sum := "45286ae548f101c4bca6a23f26fb7d2fb79baafc3b480144dab26cdf0094ea8d", checked := Try.checked }
namespace Rows
def none {H : Type} : Left H := { results := [], args := [] }

/-- 'zzlaws_root_b1.FnFromFirstRotatesToLeast': WHATEVER THE INPUT: true; the input reads as it did. -/
def fnFromFirstRotatesToLeastSpec : ChangeSpec := { name := "fnFromFirstRotatesToLeast", fn := fun _ => fun
  | [d1, d2] => { results := [.lit (.bool true)], args := [d1, d2] }
  | _ => none }
def fnFromFirstRotatesToLeastRow : OpenClaim := { program := "qxb6608886a", sum := "45286ae548f101c4bca6a23f26fb7d2fb79baafc3b480144dab26cdf0094ea8d", func := "example.com/ignition-key/ignition-key/zzlaws_root_b1.FnFromFirstRotatesToLeast", spec := "fnFromFirstRotatesToLeast", apart := false }
def FnFromFirstRotatesToLeastSaid : Prop := fnFromFirstRotatesToLeastRow.holds Try.pinned (OpenSpec.ofChange fnFromFirstRotatesToLeastSpec)

/-- ITS FALSE NEIGHBOUR: 'it returns false'. Refute it at one input. -/
def fnFromFirstRotatesToLeastWrong : ChangeSpec := { name := "fnFromFirstRotatesToLeast", fn := fun _ => fun
  | [d1, d2] => { results := [.lit (.bool false)], args := [d1, d2] }
  | _ => none }
def FnFromFirstRotatesToLeastWrongFalsely : Prop := fnFromFirstRotatesToLeastRow.holds Try.pinned (OpenSpec.ofChange fnFromFirstRotatesToLeastWrong)

/-- 'zzlaws_root_b1.FnListInsertBeforeLast': WHATEVER THE INPUT: true; the input reads as it did. -/
def fnListInsertBeforeLastSpec : ChangeSpec := { name := "fnListInsertBeforeLast", fn := fun _ => fun
  | [d1, d2, d3] => { results := [.lit (.bool true)], args := [d1, d2, d3] }
  | _ => none }
def fnListInsertBeforeLastRow : OpenClaim := { program := "qxb6608886a", sum := "45286ae548f101c4bca6a23f26fb7d2fb79baafc3b480144dab26cdf0094ea8d", func := "example.com/ignition-key/ignition-key/zzlaws_root_b1.FnListInsertBeforeLast", spec := "fnListInsertBeforeLast", inPlace := ["internal/abi.NoEscape", "internal/bytealg.MakeNoZero"], apart := false }
def FnListInsertBeforeLastSaid : Prop := fnListInsertBeforeLastRow.holds Try.pinned (OpenSpec.ofChange fnListInsertBeforeLastSpec)

/-- ITS FALSE NEIGHBOUR: 'it returns false'. Refute it at one input. -/
def fnListInsertBeforeLastWrong : ChangeSpec := { name := "fnListInsertBeforeLast", fn := fun _ => fun
  | [d1, d2, d3] => { results := [.lit (.bool false)], args := [d1, d2, d3] }
  | _ => none }
def FnListInsertBeforeLastWrongFalsely : Prop := fnListInsertBeforeLastRow.holds Try.pinned (OpenSpec.ofChange fnListInsertBeforeLastWrong)

/-- 'zzlaws_root_b1.FnListFrontElement': WHATEVER THE INPUT: true; the input reads as it did. -/
def fnListFrontElementSpec : ChangeSpec := { name := "fnListFrontElement", fn := fun _ => fun
  | [d1, d2] => { results := [.lit (.bool true)], args := [d1, d2] }
  | _ => none }
def fnListFrontElementRow : OpenClaim := { program := "qxb6608886a", sum := "45286ae548f101c4bca6a23f26fb7d2fb79baafc3b480144dab26cdf0094ea8d", func := "example.com/ignition-key/ignition-key/zzlaws_root_b1.FnListFrontElement", spec := "fnListFrontElement", inPlace := ["internal/abi.NoEscape", "internal/bytealg.MakeNoZero"], apart := false }
def FnListFrontElementSaid : Prop := fnListFrontElementRow.holds Try.pinned (OpenSpec.ofChange fnListFrontElementSpec)

/-- ITS FALSE NEIGHBOUR: 'it returns false'. Refute it at one input. -/
def fnListFrontElementWrong : ChangeSpec := { name := "fnListFrontElement", fn := fun _ => fun
  | [d1, d2] => { results := [.lit (.bool false)], args := [d1, d2] }
  | _ => none }
def FnListFrontElementWrongFalsely : Prop := fnListFrontElementRow.holds Try.pinned (OpenSpec.ofChange fnListFrontElementWrong)

end Rows
end Go.Proofs.Qxb6608886a
