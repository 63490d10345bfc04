/-
  THE WALK of FnMeetCutsWhereTheyCrossOrTouch, where it turns away before any work.
-/
import Derived.Test.Qxb6609068aLawB
import Derived.Laws.StructEq
namespace Go.Proofs.Qxb6609068a.Small
open Go.ChangeShapes Go.WideShapes Go.ChangeAt Go.RowKit
set_option linter.unusedVariables false
attribute [local go_sem ↓] Go.wp_at_zero Go.wp_at_succ

theorem zzBytes12_any (a1 a2 : Option Addr) (n c nc cc : Nat) (i j : Int) (w : World) (h : n ≤ 9223372036854775807) (h' : nc ≤ 9223372036854775807) :
    Calls Try.prog 12 #[.slice a1 n c, .int .i64 i, .int .i64 j, .slice a2 nc cc] w fun e w' => (∃ r, e = .returned (.bool r)) ∧ w' = w := by
  by_cases k1 : 1048576 < n
  · go_enter Try.func12, Try.ntmps12
    go_wp2
    go_ret
    exact ⟨⟨_, rfl⟩, rfl⟩
  by_cases k2 : 1048576 < nc
  · go_enter Try.func12, Try.ntmps12
    go_wp2
    go_ret
    exact ⟨⟨_, rfl⟩, rfl⟩
  by_cases k3 : 1048576 < n + nc
  · go_enter Try.func12, Try.ntmps12
    go_wp2
    go_ret
    exact ⟨⟨_, rfl⟩, rfl⟩
  · go_enter Try.func12, Try.ntmps12
    go_wp2
    go_ret
    exact ⟨⟨_, rfl⟩, rfl⟩

set_option maxRecDepth 100000 in
set_option maxHeartbeats 4000000 in
theorem cuts_long (a1 a2 : Option Addr) (n c nc cc : Nat) (i j : Int) (w : World) (h : n ≤ 9223372036854775807) (h' : nc ≤ 9223372036854775807) (hk : 8192 < n ∨ 16384 < nc) :
    Calls Try.prog 5 #[.slice a1 n c, .int .i64 i, .int .i64 j, .slice a2 nc cc] w fun e w' => e = .returned (.bool true) ∧ Below w.heap.size w w' := by
  by_cases k1 : 8192 < n
  · clear hk
    go_enter Try.func5, Try.ntmps5
    go_wp2_with (go_at_call 12; refine (zzBytes12_any _ _ _ _ _ _ _ _ _ h h').mono ?_; rintro e w' ⟨⟨r, rfl⟩, hw⟩; subst w'; cases r)
    all_goals
      go_ret
      exact ⟨rfl, Below.refl _ _⟩
  · have k2 : 16384 < nc := by omega
    clear hk
    go_enter Try.func5, Try.ntmps5
    go_wp2_with (go_at_call 12; refine (zzBytes12_any _ _ _ _ _ _ _ _ _ h h').mono ?_; rintro e w' ⟨⟨r, rfl⟩, hw⟩; subst w'; cases r)
    all_goals
      go_ret
      exact ⟨rfl, Below.refl _ _⟩

set_option maxRecDepth 100000 in
set_option maxHeartbeats 4000000 in
theorem cuts_far (a1 a2 : Option Addr) (n c nc cc : Nat) (i j : Int) (w : World) (h : n ≤ 8192) (h' : nc ≤ 16384) (hk : i < 0 ∨ (n : Int) ≤ i ∨ j < 0 ∨ (n : Int) ≤ j) :
    Calls Try.prog 5 #[.slice a1 n c, .int .i64 i, .int .i64 j, .slice a2 nc cc] w fun e w' => e = .returned (.bool true) ∧ Below w.heap.size w w' := by
  go_enter Try.func5, Try.ntmps5
  by_cases k1 : i < 0
  · clear hk
    go_wp2_with (go_at_call 12; refine (zzBytes12_yes _ _ _ _ _ _ _ _ _ h h').mono ?_; rintro e w' ⟨rfl, hw⟩; subst w')
    go_ret
    exact ⟨rfl, Below.refl _ _⟩
  by_cases k2 : (n : Int) ≤ i
  · clear hk
    go_wp2_with (go_at_call 12; refine (zzBytes12_yes _ _ _ _ _ _ _ _ _ h h').mono ?_; rintro e w' ⟨rfl, hw⟩; subst w')
    go_ret
    exact ⟨rfl, Below.refl _ _⟩
  by_cases k3 : j < 0
  · clear hk
    go_wp2_with (go_at_call 12; refine (zzBytes12_yes _ _ _ _ _ _ _ _ _ h h').mono ?_; rintro e w' ⟨rfl, hw⟩; subst w')
    go_ret
    exact ⟨rfl, Below.refl _ _⟩
  · have k4 : (n : Int) ≤ j := by omega
    clear hk
    go_wp2_with (go_at_call 12; refine (zzBytes12_yes _ _ _ _ _ _ _ _ _ h h').mono ?_; rintro e w' ⟨rfl, hw⟩; subst w')
    go_ret
    exact ⟨rfl, Below.refl _ _⟩

set_option maxRecDepth 100000 in
set_option maxHeartbeats 4000000 in
theorem cuts_out (b o n c : Nat) (s : Segs) (ca : Option Addr) (nc cc : Nat) (i j : Nat) (w : World) (hn : n ≤ 8192) (hnc : nc ≤ 16384) (hs : ∀ k, k < n → SegAt w b o s k)
    (hi' : i < n) (hj' : j < n) (r1 r2 : Bool) (b1 : segB (s.ax i) (s.ay i) (s.bx i) (s.by' i) = r1) (b2 : segB (s.ax j) (s.ay j) (s.bx j) (s.by' j) = r2)
    (hk : (r1 && r2) = false) :
    Calls Try.prog 5 #[.slice (some ⟨b, o, none⟩) n c, .int .i64 i, .int .i64 j, .slice ca nc cc] w fun e w' => e = .returned (.bool true) ∧ Below w.heap.size w w' := by
  have HS : Hid (∀ k, k < n → SegAt w b o s k) := hs
  have B1 : Hid (segB (s.ax i) (s.ay i) (s.bx i) (s.by' i) = r1) := b1
  have B2 : Hid (segB (s.ax j) (s.ay j) (s.bx j) (s.by' j) = r2) := b2
  clear hs b1 b2
  have x1 : (i : Int) < (n : Int) := by omega
  have x2 : (j : Int) < (n : Int) := by omega
  obtain ⟨c0, c1, c2, c3, c4, c5, c6, c7⟩ := HS.out i hi'
  have tok : True := trivial
  go_enter Try.func5, Try.ntmps5
  cases r1
  · go_wp2_with (first
      | (go_at_call 12; refine (zzBytes12_yes _ _ _ _ _ _ _ _ _ hn hnc).mono ?_; rintro e w' ⟨rfl, hw⟩; subst w')
      | (go_at_call 13; refine (segInRange_is (s.ax i) (s.ay i) (s.bx i) (s.by' i) (s.rg i) (s.ix i) (s.t0 i) (s.t1 i) false B1.out _).mono ?_; rintro e w1 ⟨rfl, hb1⟩))
    go_ret
    exact ⟨rfl, hb1⟩
  cases r2
  · go_wp2_with (first
      | (go_at_call 12; refine (zzBytes12_yes _ _ _ _ _ _ _ _ _ hn hnc).mono ?_; rintro e w' ⟨rfl, hw⟩; subst w')
      | (go_at_call 13; have _t := tok; refine (segInRange_is (s.ax i) (s.ay i) (s.bx i) (s.by' i) (s.rg i) (s.ix i) (s.t0 i) (s.t1 i) true B1.out _).mono ?_; rintro e w1 ⟨rfl, hb1⟩; clear tok; obtain ⟨e0, e1, e2, e3, e4, e5, e6, e7⟩ := (HS.out j hj').on hb1)
      | (go_at_call 13; refine (segInRange_is (s.ax j) (s.ay j) (s.bx j) (s.by' j) (s.rg j) (s.ix j) (s.t0 j) (s.t1 j) false B2.out _).mono ?_; rintro e w2 ⟨rfl, hb2⟩))
    go_ret
    exact ⟨rfl, bthen hb1 hb2⟩
  · cases hk

end Go.Proofs.Qxb6609068a.Small
