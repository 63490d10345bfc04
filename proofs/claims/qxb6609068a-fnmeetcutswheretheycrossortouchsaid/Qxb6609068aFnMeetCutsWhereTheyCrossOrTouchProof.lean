/-
  'Rows.FnMeetCutsWhereTheyCrossOrTouchSaid': the walk of the law over the contracts of its callees; the frame is the guide's template at this function's number and types.
-/
import Derived.Test.Qxb6609068aRows
import Derived.Test.Qxb6609068aLawB
import Derived.Test.Qxb6609068aLawBOut
import Derived.WalkSpells
import Derived.WalkKit
import Derived.ProofKit
import Derived.OpenShut
import Derived.ShutString
import Derived.ChangeOld
import Derived.Below
namespace Go.Proofs.Qxb6609068a.fnMeetCutsWhereTheyCrossOrTouch
open Small Go.ChangeShapes Go.WideShapes Go.ChangeAt Go.RowKit
set_option linter.unusedVariables false

theorem own : ownKnob Try.prog.godebug = none := by kernel_rfl
theorem laidOut : laidOutB Try.prog = true := by kernel_rfl

theorem walk (a0 : Option Addr) (n c : Nat) (a3 : Option Addr) (nc cc : Nat) (i j : Int) (w : World) (k1 : n ≤ c ∧ c ≤ maxLen ∧ SegRow w a0 n) (k2 : nc ≤ cc ∧ cc ≤ maxLen ∧ ∃ q, CutRow w a3 nc q) :
    Calls Try.prog 5 #[.slice a0 n c, .int .i64 i, .int .i64 j, .slice a3 nc cc] w fun e w' => e = .returned (.bool true) ∧ Below w.heap.size w w' := by
  obtain ⟨h1, h2, hs⟩ := k1
  obtain ⟨g1, g2, q, hq⟩ := k2
  unfold maxLen at h2 g2
  by_cases hA : 8192 < n ∨ 16384 < nc
  · exact cuts_long _ _ _ _ _ _ _ _ _ (by omega) (by omega) hA
  by_cases hB : i < 0 ∨ (n : Int) ≤ i ∨ j < 0 ∨ (n : Int) ≤ j
  · exact cuts_far _ _ _ _ _ _ _ _ _ (by omega) (by omega) hB
  obtain ⟨b, o, s, rfl, hs'⟩ := hs (by omega)
  obtain ⟨i', rfl⟩ : ∃ i' : Nat, i = (i' : Int) := ⟨i.toNat, by omega⟩
  obtain ⟨j', rfl⟩ : ∃ j' : Nat, j = (j' : Int) := ⟨j.toNat, by omega⟩
  cases hC : (segB (s.ax i') (s.ay i') (s.bx i') (s.by' i') && segB (s.ax j') (s.ay j') (s.bx j') (s.by' j'))
  · exact cuts_out b o n c s a3 nc cc i' j' w (by omega) (by omega) hs' (by omega) (by omega) _ _ rfl rfl hC
  · simp only [Bool.and_eq_true] at hC
    obtain ⟨c1, c2⟩ := hC
    by_cases hlt : i' ≤ j'
    · exact cuts_in b o n c s a3 nc cc q i' j' i' j' w (by omega) (by omega) hs' hq (by omega) (by omega) c1 c2 hlt (.inl ⟨rfl, rfl⟩)
    · exact cuts_in b o n c s a3 nc cc q i' j' j' i' w (by omega) (by omega) hs' hq (by omega) (by omega) c1 c2 (by omega) (.inr ⟨rfl, rfl⟩)

/-! ### THE ROW's STEP -/
set_option maxRecDepth 100000 in
theorem lifted (os : Os) (started : os.Started) (H : Type) (enc : TypeId × Value → H) :
    ReturnsInHanded {} Try.checked os 5 .any (Rows.fnMeetCutsWhereTheyCrossOrTouchSpec.pre6 enc Try.prog Try.f5 Rows.fnMeetCutsWhereTheyCrossOrTouchRow.domain false) (Rows.fnMeetCutsWhereTheyCrossOrTouchSpec.post enc Try.prog Try.f5 false true false false) := by
  refine returnsInHanded_of_change (C := Try.checked) own started (by kernel_rfl) Try.func5
    (ChangeSpec.witness6 (enc := enc) (C := Try.checked) false ⟨#[], #[.slice none 0 0, .int .i64 0, .int .i64 0, .slice none 0 0], []⟩ 8 (by kernel_rfl) (by kernel_rfl) (by kernel_rfl) (by kernel_rfl)) ?_
  intro W base args ds gs before hval0 hW hcnd _
  have hval : ∀ (j : Nat) t v, Try.f5.params[j]? = some t → args[j]? = some v → Value.okWide Try.prog W .any base t v := hval0
  have hW' := hW
  obtain ⟨p, q, hA0, hV, rfl, hfz, hnd⟩ := hW
  have hA : DataW.TrodAll enc Try.prog W 0 (fun _ => true) true Try.f5.params.toList args.toList ds p := hA0
  rw [Try.params5] at hA hval
  obtain ⟨v0, vs0, d0, ds0, p0, q0, hargs, rfl, rfl, h0, r0⟩ := trodAll_cons hA
  obtain ⟨v1, vs1, d1, ds1, p1, q1, rfl, rfl, rfl, h1, r1⟩ := trodAll_cons r0
  obtain ⟨v2, vs2, d2, ds2, p2, q2, rfl, rfl, rfl, h2, r2⟩ := trodAll_cons r1
  obtain ⟨v3, vs3, d3, ds3, p3, q3, rfl, rfl, rfl, h3, r3⟩ := trodAll_cons r2
  obtain ⟨rfl, rfl, rfl⟩ := trodAll_nil r3
  obtain rfl : args = #[v0, v1, v2, v3] := by cases args; simp_all
  obtain ⟨rfl, rfl⟩ := trodVars_none hV
  obtain ⟨a0, n0, c0, rfl⟩ := okWide_slice Try.underlying29 (hval 0 29 v0 rfl rfl)
  obtain ⟨a3, n3, c3, rfl⟩ := okWide_slice Try.underlying30 (hval 3 30 v3 rfl rfl)
  have k0 := h0
  have k3 := h3
  have lt0 : ∀ x ∈ p0, x.block < W.heap.size := by obtain ⟨m, hm⟩ := k0; exact DataW.trod_lt m _ _ _ hm
  have lt3 : ∀ x ∈ p3, x.block < W.heap.size := by obtain ⟨m, hm⟩ := k3; exact DataW.trod_lt m _ _ _ hm
  have w0 : n0 ≤ c0 ∧ c0 ≤ maxLen ∧ SegRow W a0 n0 := by
    obtain ⟨fuel, hf⟩ := h0
    exact open_segs hf
  have w3 : n3 ≤ c3 ∧ c3 ≤ maxLen ∧ ∃ q, CutRow W a3 n3 q := by
    obtain ⟨fuel, hf⟩ := h3
    exact open_cuts hf
  obtain ⟨a1, rfl, rfl, rfl, w1⟩ := open_int Try.underlying3 (hval 1 3 v1 rfl rfl) h1
  obtain ⟨a2, rfl, rfl, rfl, w2⟩ := open_int Try.underlying3 (hval 2 3 v2 rfl rfl) h2
  clear hA0 hval0
  refine (walk a0 n0 c0 a3 n3 c3 a1 a2 W w0 w3).mono fun e W' ⟨he, bel⟩ => ?_
  subst he
  exact ⟨_, rfl, _, _, _, [], _, [], hW', trodAll_mk1 (shut_bool Try.underlying4 _), (trodAll_cons_mk (Below.trod laidOut (by kernel_rfl) (of_decide_eq_true (by kernel_rfl)) k0 bel lt0) (trodAll_cons_mk (shut_int Try.underlying3 w1) (trodAll_cons_mk (shut_int Try.underlying3 w2) (trodAll_cons_mk (Below.trod laidOut (by kernel_rfl) (of_decide_eq_true (by kernel_rfl)) k3 bel lt3) trodAll_mk0)))), rfl, bel.frame _, fun h => by cases h⟩

theorem over : Rows.fnMeetCutsWhereTheyCrossOrTouchRow.holds Try.pinned (OpenSpec.ofChange Rows.fnMeetCutsWhereTheyCrossOrTouchSpec) :=
  OpenClaim.holds_of_wide 5 Try.f5 rfl rfl rfl rfl rfl rfl rfl ⟨rfl, rfl, rfl, rfl, rfl⟩ rfl rfl rfl rfl rfl (by kernel_rfl) Try.func5 (by kernel_rfl)
    (of_decide_eq_true (by kernel_rfl)) (by unfold Func.isWrapper; first | (rw [if_pos (by decide +kernel)]; kernel_rfl) | (rw [if_neg (by decide +kernel)]; exact ⟨rfl, rfl⟩))
    (fun os started H enc _ => lifted os started H enc)

/-- THE STATEMENT -/
theorem proved : Rows.FnMeetCutsWhereTheyCrossOrTouchSaid := over
end Go.Proofs.Qxb6609068a.fnMeetCutsWhereTheyCrossOrTouch
