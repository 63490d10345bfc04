/-
  THE PLAIN LAW of a crossing: the rounded point lies in the boxes of both segments, and within 513/1024 of the crossing.
-/
import Derived.Test.Qxb6609068aCount
namespace Go.Proofs.Qxb6609068a.Small
set_option linter.unusedVariables false

/-- a whole number within 513/1024 of T / D, where T / D lies between two whole numbers, lies between them -/
theorem inside {n D T lo hi : Int} (hD : D ≠ 0) (h1 : 1024 * (n * D - T) ≤ 513 * (D.natAbs : Int)) (h2 : -(513 * (D.natAbs : Int)) ≤ 1024 * (n * D - T))
    (hp : 0 < D → lo * D ≤ T ∧ T ≤ hi * D) (hm : D < 0 → hi * D ≤ T ∧ T ≤ lo * D) : lo ≤ n ∧ n ≤ hi := by
  rcases (by omega : 0 < D ∨ D < 0) with h | h
  · obtain ⟨k1, k2⟩ := hp h
    constructor
    · apply Int.not_lt.1
      intro hc
      have : n * D ≤ (lo - 1) * D := Int.mul_le_mul_of_nonneg_right (by omega) (by omega)
      rw [Int.sub_mul, Int.one_mul] at this
      omega
    · apply Int.not_lt.1
      intro hc
      have : (hi + 1) * D ≤ n * D := Int.mul_le_mul_of_nonneg_right (by omega) (by omega)
      rw [Int.add_mul, Int.one_mul] at this
      omega
  · obtain ⟨k1, k2⟩ := hm h
    constructor
    · apply Int.not_lt.1
      intro hc
      have : (lo - 1) * D ≤ n * D := Int.mul_le_mul_of_nonpos_right (by omega) (by omega)
      rw [Int.sub_mul, Int.one_mul] at this
      omega
    · apply Int.not_lt.1
      intro hc
      have : n * D ≤ (hi + 1) * D := Int.mul_le_mul_of_nonpos_right (by omega) (by omega)
      rw [Int.add_mul, Int.one_mul] at this
      omega

/-- the share of a way -/
theorem share {t D s : Int} (h : (0 < t ∧ t < D) ∨ (D < t ∧ t < 0)) : (0 < D → min 0 s * D ≤ t * s ∧ t * s ≤ max 0 s * D) ∧ (D < 0 → max 0 s * D ≤ t * s ∧ t * s ≤ min 0 s * D) := by
  constructor
  · intro hD
    rcases (by omega : 0 ≤ s ∨ s ≤ 0) with hs | hs
    · rw [Int.min_eq_left hs, Int.max_eq_right hs, Int.zero_mul, Int.mul_comm s D]
      exact ⟨Int.mul_nonneg (by omega) hs, Int.mul_le_mul_of_nonneg_right (by omega) hs⟩
    · rw [Int.min_eq_right hs, Int.max_eq_left hs, Int.zero_mul, Int.mul_comm s D]
      exact ⟨Int.mul_le_mul_of_nonpos_right (by omega) hs, Int.mul_nonpos_of_nonneg_of_nonpos (by omega) hs⟩
  · intro hD
    rcases (by omega : 0 ≤ s ∨ s ≤ 0) with hs | hs
    · rw [Int.min_eq_left hs, Int.max_eq_right hs, Int.zero_mul, Int.mul_comm s D]
      exact ⟨Int.mul_le_mul_of_nonneg_right (by omega) hs, Int.mul_nonpos_of_nonpos_of_nonneg (by omega) hs⟩
    · rw [Int.min_eq_right hs, Int.max_eq_left hs, Int.zero_mul, Int.mul_comm s D]
      exact ⟨Int.mul_nonneg_of_nonpos_of_nonpos (by omega) hs, Int.mul_le_mul_of_nonpos_right (by omega) hs⟩

/-- .. so a rounded share of the way s from 0 lies on the way -/
theorem inside_way {n t D s : Int} (h : (0 < t ∧ t < D) ∨ (D < t ∧ t < 0)) (h1 : 1024 * (n * D - t * s) ≤ 513 * (D.natAbs : Int)) (h2 : -(513 * (D.natAbs : Int)) ≤ 1024 * (n * D - t * s)) : min 0 s ≤ n ∧ n ≤ max 0 s :=
  inside (by omega) h1 h2 (share h).1 (share h).2

/-- the crossing, told along the other -/
theorem other_x (qx qy rx ry sx sy : Int) : (qx * sy - qy * sx) * rx - qx * (rx * sy - ry * sx) = (qx * ry - qy * rx) * sx := by grind
theorem other_y (qx qy rx ry sx sy : Int) : (qx * sy - qy * sx) * ry - qy * (rx * sy - ry * sx) = (qx * ry - qy * rx) * sy := by grind

theorem box_of {n eax ebx m eay eby : Int} (h : min 0 (ebx - eax) ≤ n ∧ n ≤ max 0 (ebx - eax)) (k : min 0 (eby - eay) ≤ m ∧ m ≤ max 0 (eby - eay)) : boxB (eax + n) (eay + m) eax eay ebx eby = true := by
  unfold boxB
  apply decide_eq_true
  omega

theorem box_of' {n eax fax fbx m eay fay fby : Int} (h : min 0 (fbx - fax) ≤ n + (eax - fax) ∧ n + (eax - fax) ≤ max 0 (fbx - fax)) (k : min 0 (fby - fay) ≤ m + (eay - fay) ∧ m + (eay - fay) ≤ max 0 (fby - fay)) : boxB (eax + n) (eay + m) fax fay fbx fby = true := by
  unfold boxB
  apply decide_eq_true
  omega

/-- WHAT A CROSSING's POINT IS: in both boxes, and near -/
structure CrossAt (eax eay ebx eby fax fay fbx fby d1 D n m : Int) : Prop where
  boxE : boxB (eax + n) (eay + m) eax eay ebx eby = true
  boxF : boxB (eax + n) (eay + m) fax fay fbx fby = true
  nearX : decide (1024 * ((n * D - d1 * (ebx - eax)).natAbs : Int) ≤ 513 * (D.natAbs : Int)) = true
  nearY : decide (1024 * ((m * D - d1 * (eby - eay)).natAbs : Int) ≤ 513 * (D.natAbs : Int)) = true
  offX : -4294967296 ≤ n ∧ n ≤ 4294967296
  offY : -4294967296 ≤ m ∧ m ≤ 4294967296
  bd1 : -4611686018427387904 ≤ d1 ∧ d1 ≤ 4611686018427387904
  bdD : -4611686018427387904 ≤ D ∧ D ≤ 4611686018427387904

theorem cross_at (eax eay ebx eby fax fay fbx fby : Int) (r0 : -536870912 ≤ eax ∧ eax ≤ 536870912) (r1 : -536870912 ≤ eay ∧ eay ≤ 536870912) (r2 : -536870912 ≤ ebx ∧ ebx ≤ 536870912) (r3 : -536870912 ≤ eby ∧ eby ≤ 536870912) (r4 : -536870912 ≤ fax ∧ fax ≤ 536870912) (r5 : -536870912 ≤ fay ∧ fay ≤ 536870912) (r6 : -536870912 ≤ fbx ∧ fbx ≤ 536870912) (r7 : -536870912 ≤ fby ∧ fby ≤ 536870912)
    (hc : crossV eax eay ebx eby fax fay fbx fby = true) :
    CrossAt eax eay ebx eby fax fay fbx fby (oriZ fax fay fbx fby eax eay) (oriZ fax fay fbx fby eax eay - oriZ fax fay fbx fby ebx eby) (offZ (oriZ fax fay fbx fby eax eay) (oriZ fax fay fbx fby eax eay - oriZ fax fay fbx fby ebx eby) (ebx - eax)) (offZ (oriZ fax fay fbx fby eax eay) (oriZ fax fay fbx fby eax eay - oriZ fax fay fbx fby ebx eby) (eby - eay)) := by
  unfold crossV at hc
  have o1 := cross_open hc
  have o2 := cross_open2 hc
  have b1 := ori_bd fax fay fbx fby eax eay (by omega) (by omega) (by omega) (by omega)
  have b2 := ori_bd fax fay fbx fby ebx eby (by omega) (by omega) (by omega) (by omega)
  have e4 := cr_d4 eax eay ebx eby fax fay fbx fby
  have ed := cr_den eax eay ebx eby fax fay fbx fby
  have es := cr_s eax eay ebx eby fax fay fbx fby
  have et := cr_t eax eay ebx eby fax fay fbx fby
  have ix := other_x (fax - eax) (fay - eay) (ebx - eax) (eby - eay) (fbx - fax) (fby - fay)
  have iy := other_y (fax - eax) (fay - eay) (ebx - eax) (eby - eay) (fbx - fax) (fby - fay)
  rw [ed, es, et] at ix iy
  generalize oriZ fax fay fbx fby eax eay = d1 at *
  generalize oriZ fax fay fbx fby ebx eby = d2 at *
  generalize oriZ eax eay ebx eby fax fay = d3 at *
  generalize oriZ eax eay ebx eby fbx fby = d4 at *
  clear ed es et hc
  obtain ⟨D, hD⟩ : ∃ D, d1 - d2 = D := ⟨_, rfl⟩
  have hs : (0 < d1 ∧ d1 < D) ∨ (D < d1 ∧ d1 < 0) := by omega
  have ht : (0 < -d3 ∧ -d3 < D) ∨ (D < -d3 ∧ -d3 < 0) := by omega
  rw [hD] at ix iy ⊢
  have key : ∀ (a b c e : Int), -1073741824 ≤ b - a ∧ b - a ≤ 1073741824 → d1 * (b - a) - (c - a) * D = -d3 * (e - c) →
      (min 0 (b - a) ≤ offZ d1 D (b - a) ∧ offZ d1 D (b - a) ≤ max 0 (b - a)) ∧ (min 0 (e - c) ≤ offZ d1 D (b - a) + (a - c) ∧ offZ d1 D (b - a) + (a - c) ≤ max 0 (e - c)) ∧
      decide (1024 * ((offZ d1 D (b - a) * D - d1 * (b - a)).natAbs : Int) ≤ 513 * (D.natAbs : Int)) = true := by
    intro a b c e hb hi
    obtain ⟨u, p, n, h1, h2, h3, c1, c2⟩ := Fl.cross_off d1 D (b - a) hs (by omega) hb
    rw [off_eq h1 h2 h3]
    refine ⟨inside_way hs c1 c2, ?_, ?_⟩
    · have e1 : (n + (a - c)) * D = n * D - (c - a) * D := by rw [Int.add_mul, ← Int.neg_sub c a, Int.neg_mul]; omega
      exact inside_way ht (by rw [e1, ← hi]; omega) (by rw [e1, ← hi]; omega)
    · apply decide_eq_true
      generalize n * D = P at *
      generalize d1 * (b - a) = Q at *
      omega
  obtain ⟨x1, x2, x3⟩ := key eax ebx fax fbx (by omega) ix
  obtain ⟨y1, y2, y3⟩ := key eay eby fay fby (by omega) iy
  exact ⟨box_of x1 y1, box_of' x2 y2, x3, y3, by omega, by omega, by omega, by omega⟩

end Go.Proofs.Qxb6609068a.Small
