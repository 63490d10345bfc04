/-
  THE PLAIN LAWS of the Bool functions that the walks compute.
-/
import Derived.Test.Qxb6609068aSmall
namespace Go.Proofs.Qxb6609068a.Small
open Go.RowKit

theorem btwB_iff (ax ay bx by' px py : Int) : btwB ax ay bx by' px py = true ↔ Plain.btw0 (bx - ax) (by' - ay) (px - ax) (py - ay) := by
  unfold btwB dotZ Plain.btw0
  have e1 : (ax - bx) * (px - bx) = (bx - ax) * (bx - ax - (px - ax)) := by
    rw [← Int.neg_mul_neg]; congr 1 <;> omega
  have e2 : (ay - by') * (py - by') = (by' - ay) * (by' - ay - (py - ay)) := by
    rw [← Int.neg_mul_neg]; congr 1 <;> omega
  rw [e1, e2]
  simp

theorem openB_iff (px py ax ay bx by' : Int) : openB px py ax ay bx by' = true ↔ ((bx - ax) * (py - ay) = (by' - ay) * (px - ax)) ∧ Plain.open0 (bx - ax) (by' - ay) (px - ax) (py - ay) := by
  unfold openB boxB Plain.open0 Plain.inBox
  simp only [Bool.and_eq_true, decide_eq_true_eq, Bool.not_eq_true', decide_eq_false_iff_not]
  omega

/-- on the line the two tests are one -/
theorem btw_open (ax ay bx by' px py : Int) (hc : (bx - ax) * (py - ay) - (by' - ay) * (px - ax) = 0) : btwB ax ay bx by' px py = openB px py ax ay bx by' := by
  have hc' : (bx - ax) * (py - ay) = (by' - ay) * (px - ax) := by omega
  rw [Bool.eq_iff_iff, btwB_iff, openB_iff, Plain.btw_iff hc']
  simp [hc']

theorem btw_swap (ax ay bx by' px py : Int) : btwB bx by' ax ay px py = btwB ax ay bx by' px py := by
  unfold btwB; rw [Bool.and_comm]

theorem btw_move (ax ay bx by' px py tx ty : Int) : btwB (ax + tx) (ay + ty) (bx + tx) (by' + ty) (px + tx) (py + ty) = btwB ax ay bx by' px py := by
  have e : ∀ a b t : Int, a + t - (b + t) = a - b := by intros; omega
  unfold btwB dotZ; simp only [e]

theorem btw_neg (ax ay bx by' px py : Int) : btwB (-ax) (-ay) (-bx) (-by') (-px) (-py) = btwB ax ay bx by' px py := by
  have e : ∀ a b : Int, -a - -b = -(a - b) := by intros; omega
  unfold btwB dotZ; simp only [e, Int.neg_mul_neg]

/-- p strictly inside ab, q on the line ab -/
theorem btw_split (ax ay bx by' px py qx qy : Int) (ho : openB px py ax ay bx by' = true) (hq : (bx - ax) * (qy - ay) - (by' - ay) * (qx - ax) = 0) :
    btwB ax ay bx by' px py = true ∧ btwB ax ay bx by' qx qy = (btwB ax ay px py qx qy || (btwB px py bx by' qx qy || (qx == px && qy == py))) ∧ (btwB ax ay px py qx qy && btwB px py bx by' qx qy) = false := by
  have ho' := (openB_iff _ _ _ _ _ _).mp ho
  obtain ⟨hc, hop⟩ := ho'
  have hs := Plain.split_all (gx := qx - ax) (gy := qy - ay) hc (by omega) hop
  unfold Plain.Split at hs
  have e1 : bx - ax - (px - ax) = bx - px := by omega
  have e2 : by' - ay - (py - ay) = by' - py := by omega
  have e3 : qx - ax - (px - ax) = qx - px := by omega
  have e4 : qy - ay - (py - ay) = qy - py := by omega
  rw [e1, e2, e3, e4, ← btwB_iff, ← btwB_iff, ← btwB_iff] at hs
  refine ⟨by rw [btw_open _ _ _ _ _ _ (by omega)]; exact ho, ?_, ?_⟩
  · rw [Bool.eq_iff_iff, hs.1]
    simp only [Bool.or_eq_true, Bool.and_eq_true, beq_iff_eq]
    have e5 : (qx - ax = px - ax ∧ qy - ay = py - ay) ↔ (qx = px ∧ qy = py) := by omega
    rw [e5]
  · cases h : (btwB ax ay px py qx qy && btwB px py bx by' qx qy)
    · rfl
    · exact absurd (by simpa using h) hs.2

end Go.Proofs.Qxb6609068a.Small
