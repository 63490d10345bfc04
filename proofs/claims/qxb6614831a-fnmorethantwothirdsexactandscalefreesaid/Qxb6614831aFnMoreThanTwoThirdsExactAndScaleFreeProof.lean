/-
  'Rows.FnMoreThanTwoThirdsExactAndScaleFreeSaid': the walk of the law over the contracts of Qxb6614831aSmall; the frame is the guide's template at this function's number and types.
-/
import Derived.Test.Qxb6614831aRows
import Derived.Test.Qxb6614831aSmall
import Derived.WalkKit
import Derived.ProofKit
import Derived.OpenShut
import Derived.ShutString
namespace Go.Proofs.Qxb6614831a.fnMoreThanTwoThirdsExactAndScaleFree
open Small Go.ChangeShapes Go.WideShapes Go.ChangeAt Go.RowKit
open Go.ChangeMaps (open_string shut_string)
set_option linter.unusedVariables false      -- a walk need not use every 'w<i>' (that an integer argument fits its kind)

theorem own : ownKnob Try.prog.godebug = none := by kernel_rfl

/-! ### THE WALK -/
theorem neg (a0 a1 a2 : Int) (w : World) (h : a0 < 0) : Calls Try.prog 3 #[.int .i64 a0, .int .i64 a1, .int .i64 a2] w fun e w' => e = .returned (.bool true) ∧ Below w.heap.size w w' := by
  go_enter Try.func3, Try.ntmps3
  go_wp2
  go_ret
  exact ⟨rfl, Below.refl _ _⟩

theorem big (a0 a1 a2 : Int) (w : World) (h : 0 ≤ a0) (h1 : a1 < a0) : Calls Try.prog 3 #[.int .i64 a0, .int .i64 a1, .int .i64 a2] w fun e w' => e = .returned (.bool true) ∧ Below w.heap.size w w' := by
  go_enter Try.func3, Try.ntmps3
  go_wp2
  go_ret
  exact ⟨rfl, Below.refl _ _⟩

theorem low (a0 a1 a2 : Int) (w : World) (h : 0 ≤ a0) (h1 : a0 ≤ a1) (h2 : a2 < 1) : Calls Try.prog 3 #[.int .i64 a0, .int .i64 a1, .int .i64 a2] w fun e w' => e = .returned (.bool true) ∧ Below w.heap.size w w' := by
  go_enter Try.func3, Try.ntmps3
  go_wp2
  go_ret
  exact ⟨rfl, Below.refl _ _⟩

theorem far (a0 a1 a2 : Int) (w : World) (h : 0 ≤ a0) (h1 : a0 ≤ a1) (h2 : 1 ≤ a2) (h3 : 9223372036854775807 / a2 < a1) : Calls Try.prog 3 #[.int .i64 a0, .int .i64 a1, .int .i64 a2] w fun e w' => e = .returned (.bool true) ∧ Below w.heap.size w w' := by
  go_enter Try.func3, Try.ntmps3
  go_wp2
  go_ret
  exact ⟨rfl, Below.refl _ _⟩

set_option maxHeartbeats 400000 in
theorem inside_true (a0 a1 a2 : Int) (w : World) (h : 0 ≤ a0) (h1 : a0 ≤ a1) (h1' : a1 ≤ 9223372036854775807) (h2 : 1 ≤ a2) (h3 : a1 ≤ 9223372036854775807 / a2)
    (p0 : 0 ≤ a2 * a0) (p1 : a2 * a0 ≤ a2 * a1) (p2 : a2 * a1 ≤ 9223372036854775807) (hb : moreB a0 a1 = true) (hl : decide (leastZ a1 ≤ a0) = true) (hs : moreB (a2 * a0) (a2 * a1) = true) : Calls Try.prog 3 #[.int .i64 a0, .int .i64 a1, .int .i64 a2] w fun e w' => e = .returned (.bool true) ∧ Below w.heap.size w w' := by
  have t1 : True := trivial
  go_enter Try.func3, Try.ntmps3
  go_wp2_with (first
    | (go_at_call 10; have _t := t1; refine (zzmore_is a0 a1 _ hb _ h h1 h1').mono ?_; rintro e w' ⟨rfl, rfl⟩; clear t1)
    | (go_at_call 11; refine (least_is a1 _ (by omega) h1').mono ?_; rintro e w' ⟨rfl, rfl⟩)
    | (go_at_call 10; refine (zzmore_is (a2 * a0) (a2 * a1) _ hs _ p0 p1 p2).mono ?_; rintro e w' ⟨rfl, rfl⟩))
  go_ret
  exact ⟨rfl, Below.refl _ _⟩

set_option maxHeartbeats 400000 in
theorem inside_false (a0 a1 a2 : Int) (w : World) (h : 0 ≤ a0) (h1 : a0 ≤ a1) (h1' : a1 ≤ 9223372036854775807) (h2 : 1 ≤ a2) (h3 : a1 ≤ 9223372036854775807 / a2)
    (p0 : 0 ≤ a2 * a0) (p1 : a2 * a0 ≤ a2 * a1) (p2 : a2 * a1 ≤ 9223372036854775807) (hb : moreB a0 a1 = false) (hl : decide (leastZ a1 ≤ a0) = false) (hs : moreB (a2 * a0) (a2 * a1) = false) : Calls Try.prog 3 #[.int .i64 a0, .int .i64 a1, .int .i64 a2] w fun e w' => e = .returned (.bool true) ∧ Below w.heap.size w w' := by
  have t1 : True := trivial
  go_enter Try.func3, Try.ntmps3
  go_wp2_with (first
    | (go_at_call 10; have _t := t1; refine (zzmore_is a0 a1 _ hb _ h h1 h1').mono ?_; rintro e w' ⟨rfl, rfl⟩; clear t1)
    | (go_at_call 11; refine (least_is a1 _ (by omega) h1').mono ?_; rintro e w' ⟨rfl, rfl⟩)
    | (go_at_call 10; refine (zzmore_is (a2 * a0) (a2 * a1) _ hs _ p0 p1 p2).mono ?_; rintro e w' ⟨rfl, rfl⟩))
  go_ret
  exact ⟨rfl, Below.refl _ _⟩

theorem walk (a0 : Int) (a1 : Int) (a2 : Int) (w0 : (Lit.int .i64 a0).wf = true) (w1 : (Lit.int .i64 a1).wf = true) (w2 : (Lit.int .i64 a2).wf = true) (w : World) :
    Calls Try.prog 3 #[.int .i64 a0, .int .i64 a1, .int .i64 a2] w fun e w' => e = .returned (.bool true) ∧ Below w.heap.size w w' := by
  have b1 := bounds_i64 w1
  rcases Int.lt_or_le a0 0 with h | h
  · exact neg _ _ _ _ h
  rcases Int.lt_or_le a1 a0 with h1 | h1
  · exact big _ _ _ _ h h1
  rcases Int.lt_or_le a2 1 with h2 | h2
  · exact low _ _ _ _ h h1 h2
  rcases Int.lt_or_le (9223372036854775807 / a2) a1 with h3 | h3
  · exact far _ _ _ _ h h1 h2 h3
  have p0 : 0 ≤ a2 * a0 := Int.mul_nonneg (by omega) h
  have p1 : a2 * a0 ≤ a2 * a1 := Int.mul_le_mul_of_nonneg_left h1 (by omega)
  have p2 : a2 * a1 ≤ 9223372036854775807 := by
    have := (Int.le_ediv_iff_mul_le (by omega : 0 < a2)).mp h3
    rw [Int.mul_comm]; exact this
  cases hb : moreB a0 a1
  · exact inside_false _ _ _ _ h h1 b1.2 h2 h3 p0 p1 p2 hb (by rw [more_least, hb]) (by rw [more_scale _ _ _ h2, hb])
  · exact inside_true _ _ _ _ h h1 b1.2 h2 h3 p0 p1 p2 hb (by rw [more_least, hb]) (by rw [more_scale _ _ _ h2, hb])

/-! ### THE ROW's STEP: WRITTEN OUT: LEAVE IT -/
set_option maxRecDepth 100000 in
theorem lifted (os : Os) (started : os.Started) (H : Type) (enc : TypeId × Value → H) :
    ReturnsInHanded {} Try.checked os 3 .any (Rows.fnMoreThanTwoThirdsExactAndScaleFreeSpec.pre6 enc Try.prog Try.f3 Rows.fnMoreThanTwoThirdsExactAndScaleFreeRow.domain false) (Rows.fnMoreThanTwoThirdsExactAndScaleFreeSpec.post enc Try.prog Try.f3 false true false false) := by
  refine returnsInHanded_of_change (C := Try.checked) own started (by kernel_rfl) Try.func3
    (ChangeSpec.witness6 (enc := enc) (C := Try.checked) false ⟨#[], #[.int .i64 0, .int .i64 0, .int .i64 0], []⟩ 8 (by kernel_rfl) (by kernel_rfl) (by kernel_rfl) (by kernel_rfl)) ?_
  intro W base args ds gs before hval0 hW hcnd _
  have hval : ∀ (j : Nat) t v, Try.f3.params[j]? = some t → args[j]? = some v → Value.okWide Try.prog W .any base t v := hval0
  have hW' := hW
  obtain ⟨p, q, hA0, hV, rfl, hfz, hnd⟩ := hW
  have hA : DataW.TrodAll enc Try.prog W 0 (fun _ => true) true Try.f3.params.toList args.toList ds p := hA0
  rw [Try.params3] at hA hval
  obtain ⟨v0, vs0, d0, ds0, p0, q0, hargs, rfl, rfl, h0, r0⟩ := trodAll_cons hA
  obtain ⟨v1, vs1, d1, ds1, p1, q1, rfl, rfl, rfl, h1, r1⟩ := trodAll_cons r0
  obtain ⟨v2, vs2, d2, ds2, p2, q2, rfl, rfl, rfl, h2, r2⟩ := trodAll_cons r1
  obtain ⟨rfl, rfl, rfl⟩ := trodAll_nil r2
  obtain rfl : args = #[v0, v1, v2] := by cases args; simp_all
  obtain ⟨rfl, rfl⟩ := trodVars_none hV
  obtain ⟨a0, rfl, rfl, rfl, w0⟩ := open_int Try.underlying3 (hval 0 3 v0 rfl rfl) h0
  obtain ⟨a1, rfl, rfl, rfl, w1⟩ := open_int Try.underlying3 (hval 1 3 v1 rfl rfl) h1
  obtain ⟨a2, rfl, rfl, rfl, w2⟩ := open_int Try.underlying3 (hval 2 3 v2 rfl rfl) h2
  clear hA0 hval0
  simp only [List.append_nil] at hW'
  refine (walk a0 a1 a2 w0 w1 w2 W).mono fun e W' ⟨he, bel⟩ => ?_
  subst he
  exact ⟨_, rfl, _, _, _, [], [], [], hW', trodAll_mk1 (shut_bool Try.underlying4 _), (trodAll_cons_mk (shut_int Try.underlying3 w0) (trodAll_cons_mk (shut_int Try.underlying3 w1) (trodAll_cons_mk (shut_int Try.underlying3 w2) trodAll_mk0))), rfl, bel.frame _, fun h => by cases h⟩

theorem over : Rows.fnMoreThanTwoThirdsExactAndScaleFreeRow.holds Try.pinned (OpenSpec.ofChange Rows.fnMoreThanTwoThirdsExactAndScaleFreeSpec) :=
  OpenClaim.holds_of_wide 3 Try.f3 rfl rfl rfl rfl rfl rfl rfl ⟨rfl, rfl, rfl, rfl, rfl⟩ rfl rfl rfl rfl rfl (by kernel_rfl) Try.func3 (by kernel_rfl)
    (of_decide_eq_true (by kernel_rfl)) (by unfold Func.isWrapper; first | (rw [if_pos (by decide +kernel)]; kernel_rfl) | (rw [if_neg (by decide +kernel)]; exact ⟨rfl, rfl⟩))
    (fun os started H enc _ => lifted os started H enc)

/-- THE STATEMENT -/
theorem proved : Rows.FnMoreThanTwoThirdsExactAndScaleFreeSaid :=
  over
end Go.Proofs.Qxb6614831a.fnMoreThanTwoThirdsExactAndScaleFree
