/-
  'Rows.FnBetweenIsTheOpenSegmentSaid': the walk of the law over the contracts of Qxb6609068aSmall; the frame is the guide's template at this function's number and types.
-/
import Derived.Test.Qxb6609068aRows
import Derived.Test.Qxb6609068aBetween
import Derived.WalkKit
import Derived.ProofKit
import Derived.OpenShut
import Derived.ShutString
namespace Go.Proofs.Qxb6609068a.fnBetweenIsTheOpenSegment
open Small Go.ChangeShapes Go.WideShapes Go.ChangeAt Go.RowKit
open Go.ChangeMaps (open_string shut_string)
set_option linter.unusedVariables false      -- a walk need not use every 'w<i>' (that an integer argument fits its kind)

theorem own : ownKnob Try.prog.godebug = none := by kernel_rfl

/-! ### THE WALK -/
theorem early (a0 a1 a2 a3 a4 a5 a6 a7 : Int) (w : World) (h : (inR a0 && (inR a1 && (inR a2 && (inR a3 && (inR a4 && (inR a5 && (inR a6 && inR a7))))))) = false) :
    Calls Try.prog 3 #[.int .i64 a0, .int .i64 a1, .int .i64 a2, .int .i64 a3, .int .i64 a4, .int .i64 a5, .int .i64 a6, .int .i64 a7] w fun e w' => e = .returned (.bool true) ∧ Below w.heap.size w w' := by
  cases h0 : inR a0
  · clear h
    go_enter Try.func3, Try.ntmps3
    go_wp2_with (go_at_call 8; refine (inRange_is _ _ (by assumption) _).mono ?_; rintro e w' ⟨rfl, rfl⟩)
    go_ret
    exact ⟨rfl, Below.refl _ _⟩
  cases h1 : inR a1
  · clear h
    go_enter Try.func3, Try.ntmps3
    go_wp2_with (go_at_call 8; refine (inRange_is _ _ (by assumption) _).mono ?_; rintro e w' ⟨rfl, rfl⟩)
    go_ret
    exact ⟨rfl, Below.refl _ _⟩
  cases h2 : inR a2
  · clear h
    go_enter Try.func3, Try.ntmps3
    go_wp2_with (go_at_call 8; refine (inRange_is _ _ (by assumption) _).mono ?_; rintro e w' ⟨rfl, rfl⟩)
    go_ret
    exact ⟨rfl, Below.refl _ _⟩
  cases h3 : inR a3
  · clear h
    go_enter Try.func3, Try.ntmps3
    go_wp2_with (go_at_call 8; refine (inRange_is _ _ (by assumption) _).mono ?_; rintro e w' ⟨rfl, rfl⟩)
    go_ret
    exact ⟨rfl, Below.refl _ _⟩
  cases h4 : inR a4
  · clear h
    go_enter Try.func3, Try.ntmps3
    go_wp2_with (go_at_call 8; refine (inRange_is _ _ (by assumption) _).mono ?_; rintro e w' ⟨rfl, rfl⟩)
    go_ret
    exact ⟨rfl, Below.refl _ _⟩
  cases h5 : inR a5
  · clear h
    go_enter Try.func3, Try.ntmps3
    go_wp2_with (go_at_call 8; refine (inRange_is _ _ (by assumption) _).mono ?_; rintro e w' ⟨rfl, rfl⟩)
    go_ret
    exact ⟨rfl, Below.refl _ _⟩
  cases h6 : inR a6
  · clear h
    go_enter Try.func3, Try.ntmps3
    go_wp2_with (go_at_call 8; refine (inRange_is _ _ (by assumption) _).mono ?_; rintro e w' ⟨rfl, rfl⟩)
    go_ret
    exact ⟨rfl, Below.refl _ _⟩
  cases h7 : inR a7
  · clear h
    go_enter Try.func3, Try.ntmps3
    go_wp2_with (go_at_call 8; refine (inRange_is _ _ (by assumption) _).mono ?_; rintro e w' ⟨rfl, rfl⟩)
    go_ret
    exact ⟨rfl, Below.refl _ _⟩
  · rw [h0, h1, h2, h3, h4, h5, h6, h7] at h; simp at h

set_option maxHeartbeats 1000000 in
theorem inside (a0 a1 a2 a3 a4 a5 a6 a7 : Int) (w : World) (h0 : inR a0 = true) (h1 : inR a1 = true) (h2 : inR a2 = true) (h3 : inR a3 = true) (h4 : inR a4 = true) (h5 : inR a5 = true) (h6 : inR a6 = true) (h7 : inR a7 = true) :
    Calls Try.prog 3 #[.int .i64 a0, .int .i64 a1, .int .i64 a2, .int .i64 a3, .int .i64 a4, .int .i64 a5, .int .i64 a6, .int .i64 a7] w fun e w' => e = .returned (.bool true) ∧ Below w.heap.size w w' := by
  have r0 := inR_true h0
  have r1 := inR_true h1
  have r2 := inR_true h2
  have r3 := inR_true h3
  have r4 := inR_true h4
  have r5 := inR_true h5
  have r6 := inR_true h6
  have r7 := inR_true h7
  have m1 := Plain.prod_bd (x := a2 - a0) (y := a5 - a1) (by omega) (by omega)
  have m2 := Plain.prod_bd (x := a3 - a1) (y := a4 - a0) (by omega) (by omega)
  by_cases hc : (a2 - a0) * (a5 - a1) - (a3 - a1) * (a4 - a0) = 0
  · obtain ⟨b, hb⟩ : ∃ b, openB a4 a5 a0 a1 a2 a3 = b := ⟨_, rfl⟩
    have b1 : btwB a0 a1 a2 a3 a4 a5 = b := by rw [btw_open _ _ _ _ _ _ hc, hb]
    have b2 : btwB a2 a3 a0 a1 a4 a5 = b := by rw [btw_swap, b1]
    have b3' : btwB (a0 + a6) (a1 + a7) (a2 + a6) (a3 + a7) (a4 + a6) (a5 + a7) = b := by rw [btw_move, b1]
    have b4 : btwB (-a0) (-a1) (-a2) (-a3) (-a4) (-a5) = b := by rw [btw_neg, b1]
    have n1 : Near a0 a1 a2 a3 a4 a5 := by unfold Near; omega
    have n2 : Near a2 a3 a0 a1 a4 a5 := by unfold Near; omega
    have n3 : Near (a0 + a6) (a1 + a7) (a2 + a6) (a3 + a7) (a4 + a6) (a5 + a7) := by unfold Near; omega
    have n4 : Near (-a0) (-a1) (-a2) (-a3) (-a4) (-a5) := by unfold Near; omega
    have hcb : ((a2 - a0) * (a5 - a1) - (a3 - a1) * (a4 - a0) != 0) = false := by simp [hc]
    have HC : Hid ((a2 - a0) * (a5 - a1) - (a3 - a1) * (a4 - a0) = 0) := hc
    clear hc
    have t1 : True := trivial
    have t2 : True := trivial
    have t3 : True := trivial
    go_enter Try.func3, Try.ntmps3
    go_wp2_with (first
      | (go_at_call 8; refine (inRange_is _ _ (by assumption) _).mono ?_; rintro e w' ⟨rfl, rfl⟩)
      | (go_at_call 9; refine (onOpen_is a4 a5 a0 a1 a2 a3 b hb _ r4 r5 r0 r1 r2 r3).mono ?_; rintro e w' ⟨rfl, rfl⟩)
      | (go_at_call 10; refine (newPoint_is _ _ _).mono ?_; rintro e w' ⟨rfl, rfl⟩)
      | (go_at_call 11; have _t := t1; refine (zzbetween_is a0 a1 a2 a3 a4 a5 b b1 _ n1).mono ?_; rintro e w1 ⟨rfl, hb1⟩; clear t1; have hc1 := (bcell hb1).1; have hz1 := hb1.size)
      | (go_at_call 11; have _t := t2; refine (zzbetween_is a2 a3 a0 a1 a4 a5 b b2 _ n2).mono ?_; rintro e w2 ⟨rfl, hb2⟩; clear t2; have hz2 := hb2.size)
      | (go_at_call 11; have _t := t3; refine (zzbetween_is _ _ _ _ _ _ b b3' _ n3).mono ?_; rintro e w3 ⟨rfl, hb3⟩; clear t3; have hz3 := hb3.size)
      | (go_at_call 11; refine (zzbetween_is _ _ _ _ _ _ b b4 _ n4).mono ?_; rintro e w4 ⟨rfl, hb4⟩))
    go_ret
    exact ⟨rfl, bthen (bthen (bthen (bthen (bthen (bthen (b6 _ _ _ _ _ _ _) hb1) hb2) (b6 _ _ _ _ _ _ _)) hb3) (b6 _ _ _ _ _ _ _)) hb4⟩
  · go_enter Try.func3, Try.ntmps3
    go_wp2_with (go_at_call 8; refine (inRange_is _ _ (by assumption) _).mono ?_; rintro e w' ⟨rfl, rfl⟩)
    go_ret
    exact ⟨rfl, Below.refl _ _⟩

theorem walk (a0 a1 a2 a3 a4 a5 a6 a7 : Int) (w : World) :
    Calls Try.prog 3 #[.int .i64 a0, .int .i64 a1, .int .i64 a2, .int .i64 a3, .int .i64 a4, .int .i64 a5, .int .i64 a6, .int .i64 a7] w fun e w' => e = .returned (.bool true) ∧ Below w.heap.size w w' := by
  cases h : (inR a0 && (inR a1 && (inR a2 && (inR a3 && (inR a4 && (inR a5 && (inR a6 && inR a7)))))))
  · exact early _ _ _ _ _ _ _ _ _ h
  · simp only [Bool.and_eq_true] at h
    obtain ⟨h0, h1, h2, h3, h4, h5, h6, h7⟩ := h
    exact inside _ _ _ _ _ _ _ _ _ h0 h1 h2 h3 h4 h5 h6 h7

/-! ### THE ROW's STEP: WRITTEN OUT: LEAVE IT -/
set_option maxRecDepth 100000 in
theorem lifted (os : Os) (started : os.Started) (H : Type) (enc : TypeId × Value → H) :
    ReturnsInHanded {} Try.checked os 3 .any (Rows.fnBetweenIsTheOpenSegmentSpec.pre6 enc Try.prog Try.f3 Rows.fnBetweenIsTheOpenSegmentRow.domain false) (Rows.fnBetweenIsTheOpenSegmentSpec.post enc Try.prog Try.f3 false true false false) := by
  refine returnsInHanded_of_change (C := Try.checked) own started (by kernel_rfl) Try.func3
    (ChangeSpec.witness6 (enc := enc) (C := Try.checked) false ⟨#[], #[.int .i64 0, .int .i64 0, .int .i64 0, .int .i64 0, .int .i64 0, .int .i64 0, .int .i64 0, .int .i64 0], []⟩ 8 (by kernel_rfl) (by kernel_rfl) (by kernel_rfl) (by kernel_rfl)) ?_
  intro W base args ds gs before hval0 hW hcnd _
  have hval : ∀ (j : Nat) t v, Try.f3.params[j]? = some t → args[j]? = some v → Value.okWide Try.prog W .any base t v := hval0
  have hW' := hW
  obtain ⟨p, q, hA0, hV, rfl, hfz, hnd⟩ := hW
  have hA : DataW.TrodAll enc Try.prog W 0 (fun _ => true) true Try.f3.params.toList args.toList ds p := hA0
  rw [Try.params3] at hA hval
  obtain ⟨v0, vs0, d0, ds0, p0, q0, hargs, rfl, rfl, h0, r0⟩ := trodAll_cons hA
  obtain ⟨v1, vs1, d1, ds1, p1, q1, rfl, rfl, rfl, h1, r1⟩ := trodAll_cons r0
  obtain ⟨v2, vs2, d2, ds2, p2, q2, rfl, rfl, rfl, h2, r2⟩ := trodAll_cons r1
  obtain ⟨v3, vs3, d3, ds3, p3, q3, rfl, rfl, rfl, h3, r3⟩ := trodAll_cons r2
  obtain ⟨v4, vs4, d4, ds4, p4, q4, rfl, rfl, rfl, h4, r4⟩ := trodAll_cons r3
  obtain ⟨v5, vs5, d5, ds5, p5, q5, rfl, rfl, rfl, h5, r5⟩ := trodAll_cons r4
  obtain ⟨v6, vs6, d6, ds6, p6, q6, rfl, rfl, rfl, h6, r6⟩ := trodAll_cons r5
  obtain ⟨v7, vs7, d7, ds7, p7, q7, rfl, rfl, rfl, h7, r7⟩ := trodAll_cons r6
  obtain ⟨rfl, rfl, rfl⟩ := trodAll_nil r7
  obtain rfl : args = #[v0, v1, v2, v3, v4, v5, v6, v7] := by cases args; simp_all
  obtain ⟨rfl, rfl⟩ := trodVars_none hV
  obtain ⟨a0, rfl, rfl, rfl, w0⟩ := open_int Try.underlying2 (hval 0 2 v0 rfl rfl) h0
  obtain ⟨a1, rfl, rfl, rfl, w1⟩ := open_int Try.underlying2 (hval 1 2 v1 rfl rfl) h1
  obtain ⟨a2, rfl, rfl, rfl, w2⟩ := open_int Try.underlying2 (hval 2 2 v2 rfl rfl) h2
  obtain ⟨a3, rfl, rfl, rfl, w3⟩ := open_int Try.underlying2 (hval 3 2 v3 rfl rfl) h3
  obtain ⟨a4, rfl, rfl, rfl, w4⟩ := open_int Try.underlying2 (hval 4 2 v4 rfl rfl) h4
  obtain ⟨a5, rfl, rfl, rfl, w5⟩ := open_int Try.underlying2 (hval 5 2 v5 rfl rfl) h5
  obtain ⟨a6, rfl, rfl, rfl, w6⟩ := open_int Try.underlying2 (hval 6 2 v6 rfl rfl) h6
  obtain ⟨a7, rfl, rfl, rfl, w7⟩ := open_int Try.underlying2 (hval 7 2 v7 rfl rfl) h7
  clear hA0 hval0
  simp only [List.append_nil] at hW'
  refine (walk a0 a1 a2 a3 a4 a5 a6 a7 W).mono fun e W' ⟨he, bel⟩ => ?_
  subst he
  exact ⟨_, rfl, _, _, _, [], [], [], hW', trodAll_mk1 (shut_bool Try.underlying4 _), (trodAll_cons_mk (shut_int Try.underlying2 w0) (trodAll_cons_mk (shut_int Try.underlying2 w1) (trodAll_cons_mk (shut_int Try.underlying2 w2) (trodAll_cons_mk (shut_int Try.underlying2 w3) (trodAll_cons_mk (shut_int Try.underlying2 w4) (trodAll_cons_mk (shut_int Try.underlying2 w5) (trodAll_cons_mk (shut_int Try.underlying2 w6) (trodAll_cons_mk (shut_int Try.underlying2 w7) trodAll_mk0)))))))), rfl, bel.frame _, fun h => by cases h⟩

theorem over : Rows.fnBetweenIsTheOpenSegmentRow.holds Try.pinned (OpenSpec.ofChange Rows.fnBetweenIsTheOpenSegmentSpec) :=
  OpenClaim.holds_of_wide 3 Try.f3 rfl rfl rfl rfl rfl rfl rfl ⟨rfl, rfl, rfl, rfl, rfl⟩ rfl rfl rfl rfl rfl (by kernel_rfl) Try.func3 (by kernel_rfl)
    (of_decide_eq_true (by kernel_rfl)) (by unfold Func.isWrapper; first | (rw [if_pos (by decide +kernel)]; kernel_rfl) | (rw [if_neg (by decide +kernel)]; exact ⟨rfl, rfl⟩))
    (fun os started H enc _ => lifted os started H enc)

/-- THE STATEMENT -/
theorem proved : Rows.FnBetweenIsTheOpenSegmentSaid :=
  over
end Go.Proofs.Qxb6609068a.fnBetweenIsTheOpenSegment
