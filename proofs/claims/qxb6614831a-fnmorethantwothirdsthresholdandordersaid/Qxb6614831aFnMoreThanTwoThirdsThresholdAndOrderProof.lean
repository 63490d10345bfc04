/-
  'Rows.FnMoreThanTwoThirdsThresholdAndOrderSaid': the walk of the law over the contracts of Qxb6614831aSmall; the frame is the guide's template at this function's number and types.
-/
import Derived.Test.Qxb6614831aRows
import Derived.Test.Qxb6614831aSmall
import Derived.WalkKit
import Derived.ProofKit
import Derived.OpenShut
import Derived.ShutString
namespace Go.Proofs.Qxb6614831a.fnMoreThanTwoThirdsThresholdAndOrder
open Small Go.ChangeShapes Go.WideShapes Go.ChangeAt Go.RowKit
open Go.ChangeMaps (open_string shut_string)
set_option linter.unusedVariables false      -- a walk need not use every 'w<i>' (that an integer argument fits its kind)

theorem own : ownKnob Try.prog.godebug = none := by kernel_rfl

/-! ### THE WALK -/
theorem neg (a0 a1 a2 a3 : Int) (w : World) (h : a0 < 0) : Calls Try.prog 4 #[.int .i64 a0, .int .i64 a1, .int .i64 a2, .int .i64 a3] w fun e w' => e = .returned (.bool true) ∧ Below w.heap.size w w' := by
  go_enter Try.func4, Try.ntmps4
  go_wp2
  go_ret
  exact ⟨rfl, Below.refl _ _⟩

theorem big (a0 a1 a2 a3 : Int) (w : World) (h : 0 ≤ a0) (h1 : a1 < a0) : Calls Try.prog 4 #[.int .i64 a0, .int .i64 a1, .int .i64 a2, .int .i64 a3] w fun e w' => e = .returned (.bool true) ∧ Below w.heap.size w w' := by
  go_enter Try.func4, Try.ntmps4
  go_wp2
  go_ret
  exact ⟨rfl, Below.refl _ _⟩

/-- t: the least number above two thirds; what the calls answer is known by 'moreB' -/
theorem least_bd (s : Int) (h : 0 ≤ s) : 1 ≤ leastZ s ∧ leastZ s ≤ s + 1 := by unfold leastZ; omega
theorem at_least (s : Int) : moreB (leastZ s) s = true := by unfold moreB leastZ; apply decide_eq_true; omega
theorem at_below (s : Int) : moreB (leastZ s - 1) s = false := by unfold moreB leastZ; apply decide_eq_false; omega
theorem more_up (m s m' : Int) (h : moreB m s = true) (hm : m ≤ m') : moreB m' s = true := by
  have := of_decide_eq_true h
  apply decide_eq_true; omega
theorem more_down (m s s' : Int) (h : moreB m s = true) (hs : s' ≤ s) : moreB m s' = true := by
  have := of_decide_eq_true h
  apply decide_eq_true; omega

set_option maxHeartbeats 400000 in
theorem way_tle_false_x_x (a0 a1 a2 a3 : Int) (w : World) (h : 0 ≤ a0) (h1 : a0 ≤ a1) (h1' : a1 ≤ 9223372036854775807) (ht : leastZ a1 ≤ a1) (hb : moreB a0 a1 = false)   : Calls Try.prog 4 #[.int .i64 a0, .int .i64 a1, .int .i64 a2, .int .i64 a3] w fun e w' => e = .returned (.bool true) ∧ Below w.heap.size w w' := by
  have hl := least_bd a1 (by omega)
  have t1 : True := trivial
  have t2 : True := trivial
  have t3 : True := trivial
  go_enter Try.func4, Try.ntmps4
  go_wp2_with (first
    | (go_at_call 11; refine (least_is a1 _ (by omega) h1').mono ?_; rintro e w' ⟨rfl, rfl⟩)
    | (go_at_call 10; have _t := t1; refine (zzmore_is (leastZ a1) a1 _ (at_least a1) _ (by omega) ht h1').mono ?_; rintro e w' ⟨rfl, rfl⟩; clear t1)
    | (go_at_call 10; have _t := t2; refine (zzmore_is (leastZ a1 - 1) a1 _ (at_below a1) _ (by omega) (by omega) h1').mono ?_; rintro e w' ⟨rfl, rfl⟩; clear t2)
    | (go_at_call 10; have _t := t3; refine (zzmore_is a0 a1 _ hb _ h h1 h1').mono ?_; rintro e w' ⟨rfl, rfl⟩; clear t3))
  go_ret
  exact ⟨rfl, Below.refl _ _⟩

set_option maxHeartbeats 400000 in
theorem way_tle_true_in_in (a0 a1 a2 a3 : Int) (w : World) (h : 0 ≤ a0) (h1 : a0 ≤ a1) (h1' : a1 ≤ 9223372036854775807) (ht : leastZ a1 ≤ a1) (hb : moreB a0 a1 = true) (g1 : a0 ≤ a2) (g2 : a2 ≤ a1) (k1 : a0 ≤ a3) (k2 : a3 ≤ a1) : Calls Try.prog 4 #[.int .i64 a0, .int .i64 a1, .int .i64 a2, .int .i64 a3] w fun e w' => e = .returned (.bool true) ∧ Below w.heap.size w w' := by
  have hl := least_bd a1 (by omega)
  have t1 : True := trivial
  have t2 : True := trivial
  have t3 : True := trivial
  have t4 : True := trivial
  have t5 : True := trivial
  go_enter Try.func4, Try.ntmps4
  go_wp2_with (first
    | (go_at_call 11; refine (least_is a1 _ (by omega) h1').mono ?_; rintro e w' ⟨rfl, rfl⟩)
    | (go_at_call 10; have _t := t1; refine (zzmore_is (leastZ a1) a1 _ (at_least a1) _ (by omega) ht h1').mono ?_; rintro e w' ⟨rfl, rfl⟩; clear t1)
    | (go_at_call 10; have _t := t2; refine (zzmore_is (leastZ a1 - 1) a1 _ (at_below a1) _ (by omega) (by omega) h1').mono ?_; rintro e w' ⟨rfl, rfl⟩; clear t2)
    | (go_at_call 10; have _t := t3; refine (zzmore_is a0 a1 _ hb _ h h1 h1').mono ?_; rintro e w' ⟨rfl, rfl⟩; clear t3)
    | (go_at_call 10; have _t := t4; refine (zzmore_is a2 a1 _ (more_up _ _ _ hb g1) _ (by omega) g2 h1').mono ?_; rintro e w' ⟨rfl, rfl⟩; clear t4)
    | (go_at_call 10; have _t := t5; refine (zzmore_is a0 a3 _ (more_down _ _ _ hb k2) _ h k1 (by omega)).mono ?_; rintro e w' ⟨rfl, rfl⟩; clear t5))
  go_ret
  exact ⟨rfl, Below.refl _ _⟩

set_option maxHeartbeats 400000 in
theorem way_tle_true_in_lo (a0 a1 a2 a3 : Int) (w : World) (h : 0 ≤ a0) (h1 : a0 ≤ a1) (h1' : a1 ≤ 9223372036854775807) (ht : leastZ a1 ≤ a1) (hb : moreB a0 a1 = true) (g1 : a0 ≤ a2) (g2 : a2 ≤ a1) (k1 : a3 < a0) : Calls Try.prog 4 #[.int .i64 a0, .int .i64 a1, .int .i64 a2, .int .i64 a3] w fun e w' => e = .returned (.bool true) ∧ Below w.heap.size w w' := by
  have hl := least_bd a1 (by omega)
  have t1 : True := trivial
  have t2 : True := trivial
  have t3 : True := trivial
  have t4 : True := trivial
  go_enter Try.func4, Try.ntmps4
  go_wp2_with (first
    | (go_at_call 11; refine (least_is a1 _ (by omega) h1').mono ?_; rintro e w' ⟨rfl, rfl⟩)
    | (go_at_call 10; have _t := t1; refine (zzmore_is (leastZ a1) a1 _ (at_least a1) _ (by omega) ht h1').mono ?_; rintro e w' ⟨rfl, rfl⟩; clear t1)
    | (go_at_call 10; have _t := t2; refine (zzmore_is (leastZ a1 - 1) a1 _ (at_below a1) _ (by omega) (by omega) h1').mono ?_; rintro e w' ⟨rfl, rfl⟩; clear t2)
    | (go_at_call 10; have _t := t3; refine (zzmore_is a0 a1 _ hb _ h h1 h1').mono ?_; rintro e w' ⟨rfl, rfl⟩; clear t3)
    | (go_at_call 10; have _t := t4; refine (zzmore_is a2 a1 _ (more_up _ _ _ hb g1) _ (by omega) g2 h1').mono ?_; rintro e w' ⟨rfl, rfl⟩; clear t4))
  go_ret
  exact ⟨rfl, Below.refl _ _⟩

set_option maxHeartbeats 400000 in
theorem way_tle_true_in_hi (a0 a1 a2 a3 : Int) (w : World) (h : 0 ≤ a0) (h1 : a0 ≤ a1) (h1' : a1 ≤ 9223372036854775807) (ht : leastZ a1 ≤ a1) (hb : moreB a0 a1 = true) (g1 : a0 ≤ a2) (g2 : a2 ≤ a1) (k1 : a0 ≤ a3) (k2 : a1 < a3) : Calls Try.prog 4 #[.int .i64 a0, .int .i64 a1, .int .i64 a2, .int .i64 a3] w fun e w' => e = .returned (.bool true) ∧ Below w.heap.size w w' := by
  have hl := least_bd a1 (by omega)
  have t1 : True := trivial
  have t2 : True := trivial
  have t3 : True := trivial
  have t4 : True := trivial
  go_enter Try.func4, Try.ntmps4
  go_wp2_with (first
    | (go_at_call 11; refine (least_is a1 _ (by omega) h1').mono ?_; rintro e w' ⟨rfl, rfl⟩)
    | (go_at_call 10; have _t := t1; refine (zzmore_is (leastZ a1) a1 _ (at_least a1) _ (by omega) ht h1').mono ?_; rintro e w' ⟨rfl, rfl⟩; clear t1)
    | (go_at_call 10; have _t := t2; refine (zzmore_is (leastZ a1 - 1) a1 _ (at_below a1) _ (by omega) (by omega) h1').mono ?_; rintro e w' ⟨rfl, rfl⟩; clear t2)
    | (go_at_call 10; have _t := t3; refine (zzmore_is a0 a1 _ hb _ h h1 h1').mono ?_; rintro e w' ⟨rfl, rfl⟩; clear t3)
    | (go_at_call 10; have _t := t4; refine (zzmore_is a2 a1 _ (more_up _ _ _ hb g1) _ (by omega) g2 h1').mono ?_; rintro e w' ⟨rfl, rfl⟩; clear t4))
  go_ret
  exact ⟨rfl, Below.refl _ _⟩

set_option maxHeartbeats 400000 in
theorem way_tle_true_lo_in (a0 a1 a2 a3 : Int) (w : World) (h : 0 ≤ a0) (h1 : a0 ≤ a1) (h1' : a1 ≤ 9223372036854775807) (ht : leastZ a1 ≤ a1) (hb : moreB a0 a1 = true) (g1 : a2 < a0) (k1 : a0 ≤ a3) (k2 : a3 ≤ a1) : Calls Try.prog 4 #[.int .i64 a0, .int .i64 a1, .int .i64 a2, .int .i64 a3] w fun e w' => e = .returned (.bool true) ∧ Below w.heap.size w w' := by
  have hl := least_bd a1 (by omega)
  have t1 : True := trivial
  have t2 : True := trivial
  have t3 : True := trivial
  have t5 : True := trivial
  go_enter Try.func4, Try.ntmps4
  go_wp2_with (first
    | (go_at_call 11; refine (least_is a1 _ (by omega) h1').mono ?_; rintro e w' ⟨rfl, rfl⟩)
    | (go_at_call 10; have _t := t1; refine (zzmore_is (leastZ a1) a1 _ (at_least a1) _ (by omega) ht h1').mono ?_; rintro e w' ⟨rfl, rfl⟩; clear t1)
    | (go_at_call 10; have _t := t2; refine (zzmore_is (leastZ a1 - 1) a1 _ (at_below a1) _ (by omega) (by omega) h1').mono ?_; rintro e w' ⟨rfl, rfl⟩; clear t2)
    | (go_at_call 10; have _t := t3; refine (zzmore_is a0 a1 _ hb _ h h1 h1').mono ?_; rintro e w' ⟨rfl, rfl⟩; clear t3)
    | (go_at_call 10; have _t := t5; refine (zzmore_is a0 a3 _ (more_down _ _ _ hb k2) _ h k1 (by omega)).mono ?_; rintro e w' ⟨rfl, rfl⟩; clear t5))
  go_ret
  exact ⟨rfl, Below.refl _ _⟩

set_option maxHeartbeats 400000 in
theorem way_tle_true_lo_lo (a0 a1 a2 a3 : Int) (w : World) (h : 0 ≤ a0) (h1 : a0 ≤ a1) (h1' : a1 ≤ 9223372036854775807) (ht : leastZ a1 ≤ a1) (hb : moreB a0 a1 = true) (g1 : a2 < a0) (k1 : a3 < a0) : Calls Try.prog 4 #[.int .i64 a0, .int .i64 a1, .int .i64 a2, .int .i64 a3] w fun e w' => e = .returned (.bool true) ∧ Below w.heap.size w w' := by
  have hl := least_bd a1 (by omega)
  have t1 : True := trivial
  have t2 : True := trivial
  have t3 : True := trivial
  go_enter Try.func4, Try.ntmps4
  go_wp2_with (first
    | (go_at_call 11; refine (least_is a1 _ (by omega) h1').mono ?_; rintro e w' ⟨rfl, rfl⟩)
    | (go_at_call 10; have _t := t1; refine (zzmore_is (leastZ a1) a1 _ (at_least a1) _ (by omega) ht h1').mono ?_; rintro e w' ⟨rfl, rfl⟩; clear t1)
    | (go_at_call 10; have _t := t2; refine (zzmore_is (leastZ a1 - 1) a1 _ (at_below a1) _ (by omega) (by omega) h1').mono ?_; rintro e w' ⟨rfl, rfl⟩; clear t2)
    | (go_at_call 10; have _t := t3; refine (zzmore_is a0 a1 _ hb _ h h1 h1').mono ?_; rintro e w' ⟨rfl, rfl⟩; clear t3))
  go_ret
  exact ⟨rfl, Below.refl _ _⟩

set_option maxHeartbeats 400000 in
theorem way_tle_true_lo_hi (a0 a1 a2 a3 : Int) (w : World) (h : 0 ≤ a0) (h1 : a0 ≤ a1) (h1' : a1 ≤ 9223372036854775807) (ht : leastZ a1 ≤ a1) (hb : moreB a0 a1 = true) (g1 : a2 < a0) (k1 : a0 ≤ a3) (k2 : a1 < a3) : Calls Try.prog 4 #[.int .i64 a0, .int .i64 a1, .int .i64 a2, .int .i64 a3] w fun e w' => e = .returned (.bool true) ∧ Below w.heap.size w w' := by
  have hl := least_bd a1 (by omega)
  have t1 : True := trivial
  have t2 : True := trivial
  have t3 : True := trivial
  go_enter Try.func4, Try.ntmps4
  go_wp2_with (first
    | (go_at_call 11; refine (least_is a1 _ (by omega) h1').mono ?_; rintro e w' ⟨rfl, rfl⟩)
    | (go_at_call 10; have _t := t1; refine (zzmore_is (leastZ a1) a1 _ (at_least a1) _ (by omega) ht h1').mono ?_; rintro e w' ⟨rfl, rfl⟩; clear t1)
    | (go_at_call 10; have _t := t2; refine (zzmore_is (leastZ a1 - 1) a1 _ (at_below a1) _ (by omega) (by omega) h1').mono ?_; rintro e w' ⟨rfl, rfl⟩; clear t2)
    | (go_at_call 10; have _t := t3; refine (zzmore_is a0 a1 _ hb _ h h1 h1').mono ?_; rintro e w' ⟨rfl, rfl⟩; clear t3))
  go_ret
  exact ⟨rfl, Below.refl _ _⟩

set_option maxHeartbeats 400000 in
theorem way_tle_true_hi_in (a0 a1 a2 a3 : Int) (w : World) (h : 0 ≤ a0) (h1 : a0 ≤ a1) (h1' : a1 ≤ 9223372036854775807) (ht : leastZ a1 ≤ a1) (hb : moreB a0 a1 = true) (g1 : a0 ≤ a2) (g2 : a1 < a2) (k1 : a0 ≤ a3) (k2 : a3 ≤ a1) : Calls Try.prog 4 #[.int .i64 a0, .int .i64 a1, .int .i64 a2, .int .i64 a3] w fun e w' => e = .returned (.bool true) ∧ Below w.heap.size w w' := by
  have hl := least_bd a1 (by omega)
  have t1 : True := trivial
  have t2 : True := trivial
  have t3 : True := trivial
  have t5 : True := trivial
  go_enter Try.func4, Try.ntmps4
  go_wp2_with (first
    | (go_at_call 11; refine (least_is a1 _ (by omega) h1').mono ?_; rintro e w' ⟨rfl, rfl⟩)
    | (go_at_call 10; have _t := t1; refine (zzmore_is (leastZ a1) a1 _ (at_least a1) _ (by omega) ht h1').mono ?_; rintro e w' ⟨rfl, rfl⟩; clear t1)
    | (go_at_call 10; have _t := t2; refine (zzmore_is (leastZ a1 - 1) a1 _ (at_below a1) _ (by omega) (by omega) h1').mono ?_; rintro e w' ⟨rfl, rfl⟩; clear t2)
    | (go_at_call 10; have _t := t3; refine (zzmore_is a0 a1 _ hb _ h h1 h1').mono ?_; rintro e w' ⟨rfl, rfl⟩; clear t3)
    | (go_at_call 10; have _t := t5; refine (zzmore_is a0 a3 _ (more_down _ _ _ hb k2) _ h k1 (by omega)).mono ?_; rintro e w' ⟨rfl, rfl⟩; clear t5))
  go_ret
  exact ⟨rfl, Below.refl _ _⟩

set_option maxHeartbeats 400000 in
theorem way_tle_true_hi_lo (a0 a1 a2 a3 : Int) (w : World) (h : 0 ≤ a0) (h1 : a0 ≤ a1) (h1' : a1 ≤ 9223372036854775807) (ht : leastZ a1 ≤ a1) (hb : moreB a0 a1 = true) (g1 : a0 ≤ a2) (g2 : a1 < a2) (k1 : a3 < a0) : Calls Try.prog 4 #[.int .i64 a0, .int .i64 a1, .int .i64 a2, .int .i64 a3] w fun e w' => e = .returned (.bool true) ∧ Below w.heap.size w w' := by
  have hl := least_bd a1 (by omega)
  have t1 : True := trivial
  have t2 : True := trivial
  have t3 : True := trivial
  go_enter Try.func4, Try.ntmps4
  go_wp2_with (first
    | (go_at_call 11; refine (least_is a1 _ (by omega) h1').mono ?_; rintro e w' ⟨rfl, rfl⟩)
    | (go_at_call 10; have _t := t1; refine (zzmore_is (leastZ a1) a1 _ (at_least a1) _ (by omega) ht h1').mono ?_; rintro e w' ⟨rfl, rfl⟩; clear t1)
    | (go_at_call 10; have _t := t2; refine (zzmore_is (leastZ a1 - 1) a1 _ (at_below a1) _ (by omega) (by omega) h1').mono ?_; rintro e w' ⟨rfl, rfl⟩; clear t2)
    | (go_at_call 10; have _t := t3; refine (zzmore_is a0 a1 _ hb _ h h1 h1').mono ?_; rintro e w' ⟨rfl, rfl⟩; clear t3))
  go_ret
  exact ⟨rfl, Below.refl _ _⟩

set_option maxHeartbeats 400000 in
theorem way_tle_true_hi_hi (a0 a1 a2 a3 : Int) (w : World) (h : 0 ≤ a0) (h1 : a0 ≤ a1) (h1' : a1 ≤ 9223372036854775807) (ht : leastZ a1 ≤ a1) (hb : moreB a0 a1 = true) (g1 : a0 ≤ a2) (g2 : a1 < a2) (k1 : a0 ≤ a3) (k2 : a1 < a3) : Calls Try.prog 4 #[.int .i64 a0, .int .i64 a1, .int .i64 a2, .int .i64 a3] w fun e w' => e = .returned (.bool true) ∧ Below w.heap.size w w' := by
  have hl := least_bd a1 (by omega)
  have t1 : True := trivial
  have t2 : True := trivial
  have t3 : True := trivial
  go_enter Try.func4, Try.ntmps4
  go_wp2_with (first
    | (go_at_call 11; refine (least_is a1 _ (by omega) h1').mono ?_; rintro e w' ⟨rfl, rfl⟩)
    | (go_at_call 10; have _t := t1; refine (zzmore_is (leastZ a1) a1 _ (at_least a1) _ (by omega) ht h1').mono ?_; rintro e w' ⟨rfl, rfl⟩; clear t1)
    | (go_at_call 10; have _t := t2; refine (zzmore_is (leastZ a1 - 1) a1 _ (at_below a1) _ (by omega) (by omega) h1').mono ?_; rintro e w' ⟨rfl, rfl⟩; clear t2)
    | (go_at_call 10; have _t := t3; refine (zzmore_is a0 a1 _ hb _ h h1 h1').mono ?_; rintro e w' ⟨rfl, rfl⟩; clear t3))
  go_ret
  exact ⟨rfl, Below.refl _ _⟩

set_option maxHeartbeats 400000 in
theorem way_tgt_false_x_x (a0 a1 a2 a3 : Int) (w : World) (h : 0 ≤ a0) (h1 : a0 ≤ a1) (h1' : a1 ≤ 9223372036854775807) (ht : a1 < leastZ a1) (hb : moreB a0 a1 = false)   : Calls Try.prog 4 #[.int .i64 a0, .int .i64 a1, .int .i64 a2, .int .i64 a3] w fun e w' => e = .returned (.bool true) ∧ Below w.heap.size w w' := by
  have hl := least_bd a1 (by omega)
  have t3 : True := trivial
  go_enter Try.func4, Try.ntmps4
  go_wp2_with (first
    | (go_at_call 11; refine (least_is a1 _ (by omega) h1').mono ?_; rintro e w' ⟨rfl, rfl⟩)
    | (go_at_call 10; have _t := t3; refine (zzmore_is a0 a1 _ hb _ h h1 h1').mono ?_; rintro e w' ⟨rfl, rfl⟩; clear t3))
  go_ret
  exact ⟨rfl, Below.refl _ _⟩

set_option maxHeartbeats 400000 in
theorem way_tgt_true_in_in (a0 a1 a2 a3 : Int) (w : World) (h : 0 ≤ a0) (h1 : a0 ≤ a1) (h1' : a1 ≤ 9223372036854775807) (ht : a1 < leastZ a1) (hb : moreB a0 a1 = true) (g1 : a0 ≤ a2) (g2 : a2 ≤ a1) (k1 : a0 ≤ a3) (k2 : a3 ≤ a1) : Calls Try.prog 4 #[.int .i64 a0, .int .i64 a1, .int .i64 a2, .int .i64 a3] w fun e w' => e = .returned (.bool true) ∧ Below w.heap.size w w' := by
  have hl := least_bd a1 (by omega)
  have t3 : True := trivial
  have t4 : True := trivial
  have t5 : True := trivial
  go_enter Try.func4, Try.ntmps4
  go_wp2_with (first
    | (go_at_call 11; refine (least_is a1 _ (by omega) h1').mono ?_; rintro e w' ⟨rfl, rfl⟩)
    | (go_at_call 10; have _t := t3; refine (zzmore_is a0 a1 _ hb _ h h1 h1').mono ?_; rintro e w' ⟨rfl, rfl⟩; clear t3)
    | (go_at_call 10; have _t := t4; refine (zzmore_is a2 a1 _ (more_up _ _ _ hb g1) _ (by omega) g2 h1').mono ?_; rintro e w' ⟨rfl, rfl⟩; clear t4)
    | (go_at_call 10; have _t := t5; refine (zzmore_is a0 a3 _ (more_down _ _ _ hb k2) _ h k1 (by omega)).mono ?_; rintro e w' ⟨rfl, rfl⟩; clear t5))
  go_ret
  exact ⟨rfl, Below.refl _ _⟩

set_option maxHeartbeats 400000 in
theorem way_tgt_true_in_lo (a0 a1 a2 a3 : Int) (w : World) (h : 0 ≤ a0) (h1 : a0 ≤ a1) (h1' : a1 ≤ 9223372036854775807) (ht : a1 < leastZ a1) (hb : moreB a0 a1 = true) (g1 : a0 ≤ a2) (g2 : a2 ≤ a1) (k1 : a3 < a0) : Calls Try.prog 4 #[.int .i64 a0, .int .i64 a1, .int .i64 a2, .int .i64 a3] w fun e w' => e = .returned (.bool true) ∧ Below w.heap.size w w' := by
  have hl := least_bd a1 (by omega)
  have t3 : True := trivial
  have t4 : True := trivial
  go_enter Try.func4, Try.ntmps4
  go_wp2_with (first
    | (go_at_call 11; refine (least_is a1 _ (by omega) h1').mono ?_; rintro e w' ⟨rfl, rfl⟩)
    | (go_at_call 10; have _t := t3; refine (zzmore_is a0 a1 _ hb _ h h1 h1').mono ?_; rintro e w' ⟨rfl, rfl⟩; clear t3)
    | (go_at_call 10; have _t := t4; refine (zzmore_is a2 a1 _ (more_up _ _ _ hb g1) _ (by omega) g2 h1').mono ?_; rintro e w' ⟨rfl, rfl⟩; clear t4))
  go_ret
  exact ⟨rfl, Below.refl _ _⟩

set_option maxHeartbeats 400000 in
theorem way_tgt_true_in_hi (a0 a1 a2 a3 : Int) (w : World) (h : 0 ≤ a0) (h1 : a0 ≤ a1) (h1' : a1 ≤ 9223372036854775807) (ht : a1 < leastZ a1) (hb : moreB a0 a1 = true) (g1 : a0 ≤ a2) (g2 : a2 ≤ a1) (k1 : a0 ≤ a3) (k2 : a1 < a3) : Calls Try.prog 4 #[.int .i64 a0, .int .i64 a1, .int .i64 a2, .int .i64 a3] w fun e w' => e = .returned (.bool true) ∧ Below w.heap.size w w' := by
  have hl := least_bd a1 (by omega)
  have t3 : True := trivial
  have t4 : True := trivial
  go_enter Try.func4, Try.ntmps4
  go_wp2_with (first
    | (go_at_call 11; refine (least_is a1 _ (by omega) h1').mono ?_; rintro e w' ⟨rfl, rfl⟩)
    | (go_at_call 10; have _t := t3; refine (zzmore_is a0 a1 _ hb _ h h1 h1').mono ?_; rintro e w' ⟨rfl, rfl⟩; clear t3)
    | (go_at_call 10; have _t := t4; refine (zzmore_is a2 a1 _ (more_up _ _ _ hb g1) _ (by omega) g2 h1').mono ?_; rintro e w' ⟨rfl, rfl⟩; clear t4))
  go_ret
  exact ⟨rfl, Below.refl _ _⟩

set_option maxHeartbeats 400000 in
theorem way_tgt_true_lo_in (a0 a1 a2 a3 : Int) (w : World) (h : 0 ≤ a0) (h1 : a0 ≤ a1) (h1' : a1 ≤ 9223372036854775807) (ht : a1 < leastZ a1) (hb : moreB a0 a1 = true) (g1 : a2 < a0) (k1 : a0 ≤ a3) (k2 : a3 ≤ a1) : Calls Try.prog 4 #[.int .i64 a0, .int .i64 a1, .int .i64 a2, .int .i64 a3] w fun e w' => e = .returned (.bool true) ∧ Below w.heap.size w w' := by
  have hl := least_bd a1 (by omega)
  have t3 : True := trivial
  have t5 : True := trivial
  go_enter Try.func4, Try.ntmps4
  go_wp2_with (first
    | (go_at_call 11; refine (least_is a1 _ (by omega) h1').mono ?_; rintro e w' ⟨rfl, rfl⟩)
    | (go_at_call 10; have _t := t3; refine (zzmore_is a0 a1 _ hb _ h h1 h1').mono ?_; rintro e w' ⟨rfl, rfl⟩; clear t3)
    | (go_at_call 10; have _t := t5; refine (zzmore_is a0 a3 _ (more_down _ _ _ hb k2) _ h k1 (by omega)).mono ?_; rintro e w' ⟨rfl, rfl⟩; clear t5))
  go_ret
  exact ⟨rfl, Below.refl _ _⟩

set_option maxHeartbeats 400000 in
theorem way_tgt_true_lo_lo (a0 a1 a2 a3 : Int) (w : World) (h : 0 ≤ a0) (h1 : a0 ≤ a1) (h1' : a1 ≤ 9223372036854775807) (ht : a1 < leastZ a1) (hb : moreB a0 a1 = true) (g1 : a2 < a0) (k1 : a3 < a0) : Calls Try.prog 4 #[.int .i64 a0, .int .i64 a1, .int .i64 a2, .int .i64 a3] w fun e w' => e = .returned (.bool true) ∧ Below w.heap.size w w' := by
  have hl := least_bd a1 (by omega)
  have t3 : True := trivial
  go_enter Try.func4, Try.ntmps4
  go_wp2_with (first
    | (go_at_call 11; refine (least_is a1 _ (by omega) h1').mono ?_; rintro e w' ⟨rfl, rfl⟩)
    | (go_at_call 10; have _t := t3; refine (zzmore_is a0 a1 _ hb _ h h1 h1').mono ?_; rintro e w' ⟨rfl, rfl⟩; clear t3))
  go_ret
  exact ⟨rfl, Below.refl _ _⟩

set_option maxHeartbeats 400000 in
theorem way_tgt_true_lo_hi (a0 a1 a2 a3 : Int) (w : World) (h : 0 ≤ a0) (h1 : a0 ≤ a1) (h1' : a1 ≤ 9223372036854775807) (ht : a1 < leastZ a1) (hb : moreB a0 a1 = true) (g1 : a2 < a0) (k1 : a0 ≤ a3) (k2 : a1 < a3) : Calls Try.prog 4 #[.int .i64 a0, .int .i64 a1, .int .i64 a2, .int .i64 a3] w fun e w' => e = .returned (.bool true) ∧ Below w.heap.size w w' := by
  have hl := least_bd a1 (by omega)
  have t3 : True := trivial
  go_enter Try.func4, Try.ntmps4
  go_wp2_with (first
    | (go_at_call 11; refine (least_is a1 _ (by omega) h1').mono ?_; rintro e w' ⟨rfl, rfl⟩)
    | (go_at_call 10; have _t := t3; refine (zzmore_is a0 a1 _ hb _ h h1 h1').mono ?_; rintro e w' ⟨rfl, rfl⟩; clear t3))
  go_ret
  exact ⟨rfl, Below.refl _ _⟩

set_option maxHeartbeats 400000 in
theorem way_tgt_true_hi_in (a0 a1 a2 a3 : Int) (w : World) (h : 0 ≤ a0) (h1 : a0 ≤ a1) (h1' : a1 ≤ 9223372036854775807) (ht : a1 < leastZ a1) (hb : moreB a0 a1 = true) (g1 : a0 ≤ a2) (g2 : a1 < a2) (k1 : a0 ≤ a3) (k2 : a3 ≤ a1) : Calls Try.prog 4 #[.int .i64 a0, .int .i64 a1, .int .i64 a2, .int .i64 a3] w fun e w' => e = .returned (.bool true) ∧ Below w.heap.size w w' := by
  have hl := least_bd a1 (by omega)
  have t3 : True := trivial
  have t5 : True := trivial
  go_enter Try.func4, Try.ntmps4
  go_wp2_with (first
    | (go_at_call 11; refine (least_is a1 _ (by omega) h1').mono ?_; rintro e w' ⟨rfl, rfl⟩)
    | (go_at_call 10; have _t := t3; refine (zzmore_is a0 a1 _ hb _ h h1 h1').mono ?_; rintro e w' ⟨rfl, rfl⟩; clear t3)
    | (go_at_call 10; have _t := t5; refine (zzmore_is a0 a3 _ (more_down _ _ _ hb k2) _ h k1 (by omega)).mono ?_; rintro e w' ⟨rfl, rfl⟩; clear t5))
  go_ret
  exact ⟨rfl, Below.refl _ _⟩

set_option maxHeartbeats 400000 in
theorem way_tgt_true_hi_lo (a0 a1 a2 a3 : Int) (w : World) (h : 0 ≤ a0) (h1 : a0 ≤ a1) (h1' : a1 ≤ 9223372036854775807) (ht : a1 < leastZ a1) (hb : moreB a0 a1 = true) (g1 : a0 ≤ a2) (g2 : a1 < a2) (k1 : a3 < a0) : Calls Try.prog 4 #[.int .i64 a0, .int .i64 a1, .int .i64 a2, .int .i64 a3] w fun e w' => e = .returned (.bool true) ∧ Below w.heap.size w w' := by
  have hl := least_bd a1 (by omega)
  have t3 : True := trivial
  go_enter Try.func4, Try.ntmps4
  go_wp2_with (first
    | (go_at_call 11; refine (least_is a1 _ (by omega) h1').mono ?_; rintro e w' ⟨rfl, rfl⟩)
    | (go_at_call 10; have _t := t3; refine (zzmore_is a0 a1 _ hb _ h h1 h1').mono ?_; rintro e w' ⟨rfl, rfl⟩; clear t3))
  go_ret
  exact ⟨rfl, Below.refl _ _⟩

set_option maxHeartbeats 400000 in
theorem way_tgt_true_hi_hi (a0 a1 a2 a3 : Int) (w : World) (h : 0 ≤ a0) (h1 : a0 ≤ a1) (h1' : a1 ≤ 9223372036854775807) (ht : a1 < leastZ a1) (hb : moreB a0 a1 = true) (g1 : a0 ≤ a2) (g2 : a1 < a2) (k1 : a0 ≤ a3) (k2 : a1 < a3) : Calls Try.prog 4 #[.int .i64 a0, .int .i64 a1, .int .i64 a2, .int .i64 a3] w fun e w' => e = .returned (.bool true) ∧ Below w.heap.size w w' := by
  have hl := least_bd a1 (by omega)
  have t3 : True := trivial
  go_enter Try.func4, Try.ntmps4
  go_wp2_with (first
    | (go_at_call 11; refine (least_is a1 _ (by omega) h1').mono ?_; rintro e w' ⟨rfl, rfl⟩)
    | (go_at_call 10; have _t := t3; refine (zzmore_is a0 a1 _ hb _ h h1 h1').mono ?_; rintro e w' ⟨rfl, rfl⟩; clear t3))
  go_ret
  exact ⟨rfl, Below.refl _ _⟩

theorem walk (a0 : Int) (a1 : Int) (a2 : Int) (a3 : Int) (w0 : (Lit.int .i64 a0).wf = true) (w1 : (Lit.int .i64 a1).wf = true) (w2 : (Lit.int .i64 a2).wf = true) (w3 : (Lit.int .i64 a3).wf = true) (w : World) :
    Calls Try.prog 4 #[.int .i64 a0, .int .i64 a1, .int .i64 a2, .int .i64 a3] w fun e w' => e = .returned (.bool true) ∧ Below w.heap.size w w' := by
  have h1' := (bounds_i64 w1).2
  rcases Int.lt_or_le a0 0 with h | h
  · exact neg _ _ _ _ _ h
  rcases Int.lt_or_le a1 a0 with h1 | h1
  · exact big _ _ _ _ _ h h1
  rcases Int.lt_or_le a1 (leastZ a1) with ht | ht
  · cases hb : moreB a0 a1
    · exact way_tgt_false_x_x _ _ _ _ _ h h1 h1' ht hb
    rcases Int.lt_or_le a2 a0 with g1 | g1
    · rcases Int.lt_or_le a3 a0 with k1 | k1
      · exact way_tgt_true_lo_lo _ _ _ _ _ h h1 h1' ht hb g1 k1
      rcases Int.lt_or_le a1 a3 with k2 | k2
      · exact way_tgt_true_lo_hi _ _ _ _ _ h h1 h1' ht hb g1 k1 k2
      · exact way_tgt_true_lo_in _ _ _ _ _ h h1 h1' ht hb g1 k1 k2
    rcases Int.lt_or_le a1 a2 with g2 | g2
    · rcases Int.lt_or_le a3 a0 with k1 | k1
      · exact way_tgt_true_hi_lo _ _ _ _ _ h h1 h1' ht hb g1 g2 k1
      rcases Int.lt_or_le a1 a3 with k2 | k2
      · exact way_tgt_true_hi_hi _ _ _ _ _ h h1 h1' ht hb g1 g2 k1 k2
      · exact way_tgt_true_hi_in _ _ _ _ _ h h1 h1' ht hb g1 g2 k1 k2
    · rcases Int.lt_or_le a3 a0 with k1 | k1
      · exact way_tgt_true_in_lo _ _ _ _ _ h h1 h1' ht hb g1 g2 k1
      rcases Int.lt_or_le a1 a3 with k2 | k2
      · exact way_tgt_true_in_hi _ _ _ _ _ h h1 h1' ht hb g1 g2 k1 k2
      · exact way_tgt_true_in_in _ _ _ _ _ h h1 h1' ht hb g1 g2 k1 k2
  · cases hb : moreB a0 a1
    · exact way_tle_false_x_x _ _ _ _ _ h h1 h1' ht hb
    rcases Int.lt_or_le a2 a0 with g1 | g1
    · rcases Int.lt_or_le a3 a0 with k1 | k1
      · exact way_tle_true_lo_lo _ _ _ _ _ h h1 h1' ht hb g1 k1
      rcases Int.lt_or_le a1 a3 with k2 | k2
      · exact way_tle_true_lo_hi _ _ _ _ _ h h1 h1' ht hb g1 k1 k2
      · exact way_tle_true_lo_in _ _ _ _ _ h h1 h1' ht hb g1 k1 k2
    rcases Int.lt_or_le a1 a2 with g2 | g2
    · rcases Int.lt_or_le a3 a0 with k1 | k1
      · exact way_tle_true_hi_lo _ _ _ _ _ h h1 h1' ht hb g1 g2 k1
      rcases Int.lt_or_le a1 a3 with k2 | k2
      · exact way_tle_true_hi_hi _ _ _ _ _ h h1 h1' ht hb g1 g2 k1 k2
      · exact way_tle_true_hi_in _ _ _ _ _ h h1 h1' ht hb g1 g2 k1 k2
    · rcases Int.lt_or_le a3 a0 with k1 | k1
      · exact way_tle_true_in_lo _ _ _ _ _ h h1 h1' ht hb g1 g2 k1
      rcases Int.lt_or_le a1 a3 with k2 | k2
      · exact way_tle_true_in_hi _ _ _ _ _ h h1 h1' ht hb g1 g2 k1 k2
      · exact way_tle_true_in_in _ _ _ _ _ h h1 h1' ht hb g1 g2 k1 k2

/-! ### THE ROW's STEP: WRITTEN OUT: LEAVE IT -/
set_option maxRecDepth 100000 in
theorem lifted (os : Os) (started : os.Started) (H : Type) (enc : TypeId × Value → H) :
    ReturnsInHanded {} Try.checked os 4 .any (Rows.fnMoreThanTwoThirdsThresholdAndOrderSpec.pre6 enc Try.prog Try.f4 Rows.fnMoreThanTwoThirdsThresholdAndOrderRow.domain false) (Rows.fnMoreThanTwoThirdsThresholdAndOrderSpec.post enc Try.prog Try.f4 false true false false) := by
  refine returnsInHanded_of_change (C := Try.checked) own started (by kernel_rfl) Try.func4
    (ChangeSpec.witness6 (enc := enc) (C := Try.checked) false ⟨#[], #[.int .i64 0, .int .i64 0, .int .i64 0, .int .i64 0], []⟩ 8 (by kernel_rfl) (by kernel_rfl) (by kernel_rfl) (by kernel_rfl)) ?_
  intro W base args ds gs before hval0 hW hcnd _
  have hval : ∀ (j : Nat) t v, Try.f4.params[j]? = some t → args[j]? = some v → Value.okWide Try.prog W .any base t v := hval0
  have hW' := hW
  obtain ⟨p, q, hA0, hV, rfl, hfz, hnd⟩ := hW
  have hA : DataW.TrodAll enc Try.prog W 0 (fun _ => true) true Try.f4.params.toList args.toList ds p := hA0
  rw [Try.params4] at hA hval
  obtain ⟨v0, vs0, d0, ds0, p0, q0, hargs, rfl, rfl, h0, r0⟩ := trodAll_cons hA
  obtain ⟨v1, vs1, d1, ds1, p1, q1, rfl, rfl, rfl, h1, r1⟩ := trodAll_cons r0
  obtain ⟨v2, vs2, d2, ds2, p2, q2, rfl, rfl, rfl, h2, r2⟩ := trodAll_cons r1
  obtain ⟨v3, vs3, d3, ds3, p3, q3, rfl, rfl, rfl, h3, r3⟩ := trodAll_cons r2
  obtain ⟨rfl, rfl, rfl⟩ := trodAll_nil r3
  obtain rfl : args = #[v0, v1, v2, v3] := by cases args; simp_all
  obtain ⟨rfl, rfl⟩ := trodVars_none hV
  obtain ⟨a0, rfl, rfl, rfl, w0⟩ := open_int Try.underlying3 (hval 0 3 v0 rfl rfl) h0
  obtain ⟨a1, rfl, rfl, rfl, w1⟩ := open_int Try.underlying3 (hval 1 3 v1 rfl rfl) h1
  obtain ⟨a2, rfl, rfl, rfl, w2⟩ := open_int Try.underlying3 (hval 2 3 v2 rfl rfl) h2
  obtain ⟨a3, rfl, rfl, rfl, w3⟩ := open_int Try.underlying3 (hval 3 3 v3 rfl rfl) h3
  clear hA0 hval0
  simp only [List.append_nil] at hW'
  refine (walk a0 a1 a2 a3 w0 w1 w2 w3 W).mono fun e W' ⟨he, bel⟩ => ?_
  subst he
  exact ⟨_, rfl, _, _, _, [], [], [], hW', trodAll_mk1 (shut_bool Try.underlying4 _), (trodAll_cons_mk (shut_int Try.underlying3 w0) (trodAll_cons_mk (shut_int Try.underlying3 w1) (trodAll_cons_mk (shut_int Try.underlying3 w2) (trodAll_cons_mk (shut_int Try.underlying3 w3) trodAll_mk0)))), rfl, bel.frame _, fun h => by cases h⟩

theorem over : Rows.fnMoreThanTwoThirdsThresholdAndOrderRow.holds Try.pinned (OpenSpec.ofChange Rows.fnMoreThanTwoThirdsThresholdAndOrderSpec) :=
  OpenClaim.holds_of_wide 4 Try.f4 rfl rfl rfl rfl rfl rfl rfl ⟨rfl, rfl, rfl, rfl, rfl⟩ rfl rfl rfl rfl rfl (by kernel_rfl) Try.func4 (by kernel_rfl)
    (of_decide_eq_true (by kernel_rfl)) (by unfold Func.isWrapper; first | (rw [if_pos (by decide +kernel)]; kernel_rfl) | (rw [if_neg (by decide +kernel)]; exact ⟨rfl, rfl⟩))
    (fun os started H enc _ => lifted os started H enc)

/-- THE STATEMENT -/
theorem proved : Rows.FnMoreThanTwoThirdsThresholdAndOrderSaid :=
  over
end Go.Proofs.Qxb6614831a.fnMoreThanTwoThirdsThresholdAndOrder
