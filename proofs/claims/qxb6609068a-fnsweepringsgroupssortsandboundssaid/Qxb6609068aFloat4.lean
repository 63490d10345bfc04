/-
  THE OFFSET OF A CROSSING: int64(math.Round(d1 / D * dx)) lies within 513/1024 of d1 * dx / D: whole numbers alone.
-/
import Derived.Test.Qxb6609068aFloat3
namespace Go.Proofs.Qxb6609068a.Fl
open Ieee

/-- the last step, as plain arithmetic: P is the product's number, scaled by 2^252 -/
theorem last_step (P N Da da xa : Nat) (hx : xa ≤ 1073741824) (hd : da ≤ Da) (u1 : U 6 (P * Da) (da * xa * 2 ^ 252)) (u2 : U 6 (da * xa * 2 ^ 252) (P * Da))
    (n1 : N * 2 ^ 252 ≤ P + 2 ^ 251) (n2 : P + 2 ^ 251 ≤ (N + 1) * 2 ^ 252) : 1024 * (N * Da) ≤ 1024 * (da * xa) + 513 * Da ∧ 1024 * (da * xa) ≤ 1024 * (N * Da) + 513 * Da := by
  have hT : da * xa ≤ Da * 1073741824 := Nat.mul_le_mul hd hx
  have m1 := Nat.mul_le_mul_right Da n1
  have m2 := Nat.mul_le_mul_right Da n2
  rw [Nat.mul_right_comm, Nat.add_mul] at m1
  rw [Nat.mul_right_comm, Nat.add_mul, Nat.add_mul, Nat.one_mul] at m2
  rw [Nat.add_mul] at m2
  unfold U at u1 u2
  generalize P * Da = PD at *
  generalize da * xa = T at *
  generalize N * Da = ND at *
  clear n1 n2 hd hx
  omega

/-- s * dx, rounded to a whole number -/
theorem prod_fl (M3 : Nat) (p3 : Int) (a3 : 4503599627370496 ≤ M3) (b3 : M3 < 9007199254740992) (c3 : -118 ≤ p3) (e3 : p3 ≤ -50) (dx : Int) (h0 : dx ≠ 0) (hx : -1073741824 ≤ dx ∧ dx ≤ 1073741824) :
    ∃ (p N P : Nat), floatBits .mul .f64 (double.word false ((p3 + 1074).toNat * 4503599627370496 + M3)) (floatOfInt .f64 dx) = some p ∧
      floatToIntVal .f64 (roundBits p) .i64 = some (if decide (dx < 0) then -(N : Int) else (N : Int)) ∧ N * 2 ^ 252 ≤ P + 2 ^ 251 ∧ P + 2 ^ 251 ≤ (N + 1) * 2 ^ 252 ∧
      U 2 P (M3 * 2 ^ (p3 + 200).toNat * (dx.natAbs * 2 ^ 52)) ∧ U 2 (M3 * 2 ^ (p3 + 200).toNat * (dx.natAbs * 2 ^ 52)) P := by
  obtain ⟨M4, p4, w4, a4, b4, c4, e4, f4, g4, ap4⟩ := of_int dx h0 (by omega)
  have hlog : dx.natAbs.log2 < 31 := by
    rw [Nat.log2_lt (by omega)]
    have : (2 : Nat) ^ 31 = 2147483648 := by decide
    omega
  obtain ⟨M5, p5, w5, a5, b5, c5, e5, ap5⟩ := mul_fl false (decide (dx < 0)) M3 M4 p3 p4 a3 b3 a4 b4 (by omega) (by omega) (by omega) (by omega)
  rw [Bool.false_xor] at w5
  obtain ⟨j, hj⟩ : ∃ j : Nat, p5 = -(j : Int) := ⟨(-p5).toNat, by omega⟩
  subst hj
  have ht : (-(j : Int) + 1074).toNat = 1074 - j := by omega
  rw [ht] at w5
  refine ⟨_, (M5 + 2 ^ (j - 1)) / 2 ^ j, M5 * 2 ^ (252 - j), ?_, round_fl (decide (dx < 0)) M5 j a5 b5 (by omega) (by omega), ?_, ?_, ?_⟩
  · show double.mul _ (floatOfInt .f64 dx) = _
    rw [w4, w5]
  · have h1 := Nat.mul_le_mul_right (2 ^ (252 - j)) (Nat.div_mul_le_self (M5 + 2 ^ (j - 1)) (2 ^ j))
    rw [pow_join, show j + (252 - j) = 252 by omega, Nat.add_mul, ← Nat.pow_add, show j - 1 + (252 - j) = 251 by omega] at h1
    exact h1
  · have h0' : M5 + 2 ^ (j - 1) < ((M5 + 2 ^ (j - 1)) / 2 ^ j + 1) * 2 ^ j := by
      have := Nat.lt_mul_div_succ (M5 + 2 ^ (j - 1)) (Nat.two_pow_pos j)
      rw [Nat.mul_comm] at this
      exact this
    have h1 := Nat.mul_le_mul_right (2 ^ (252 - j)) (Nat.le_of_lt h0')
    rw [pow_join, show j + (252 - j) = 252 by omega, Nat.add_mul, ← Nat.pow_add, show j - 1 + (252 - j) = 251 by omega] at h1
    exact h1
  · have h5 := ap5 (-252) (by omega)
    rw [show (-(j : Int) - -252).toNat = 252 - j by omega] at h5
    have e : M3 * M4 * 2 ^ (p3 + p4 - -252).toNat = M3 * 2 ^ (p3 + 200).toNat * (M4 * 2 ^ (p4 + 52).toNat) := by
      rw [show (p3 + p4 - -252).toNat = (p3 + 200).toNat + (p4 + 52).toNat by omega, Nat.pow_add, ← Nat.mul_assoc, Nat.mul_right_comm M3 M4, Nat.mul_assoc _ M4]
    rw [e] at h5
    generalize M3 * 2 ^ (p3 + 200).toNat = S at h5 ⊢
    generalize M4 * 2 ^ (p4 + 52).toNat = Q at h5 ap4
    have u5 := U.of_ap h5
    have u4 := U.of_ap ap4
    constructor
    · have := u4.1.scale S
      rw [Nat.mul_comm Q, Nat.mul_comm _ S] at this
      exact u5.1.trans this
    · have := u4.2.scale S
      rw [Nat.mul_comm Q, Nat.mul_comm _ S] at this
      exact this.trans u5.2

/-- THE LAW -/
theorem cross_off (d1 D dx : Int) (h : (0 < d1 ∧ d1 < D) ∨ (D < d1 ∧ d1 < 0)) (hD : -4611686018427387904 ≤ D ∧ D ≤ 4611686018427387904) (hx : -1073741824 ≤ dx ∧ dx ≤ 1073741824) :
    ∃ (s p : Nat) (n : Int), floatBits .quo .f64 (floatOfInt .f64 d1) (floatOfInt .f64 D) = some s ∧ floatBits .mul .f64 s (floatOfInt .f64 dx) = some p ∧ floatToIntVal .f64 (roundBits p) .i64 = some n ∧
      1024 * (n * D - d1 * dx) ≤ 513 * (D.natAbs : Int) ∧ -(513 * (D.natAbs : Int)) ≤ 1024 * (n * D - d1 * dx) := by
  obtain ⟨M3, p3, w3, a3, b3, c3, e3, u1, u2⟩ := quo_fl d1 D h hD
  by_cases h0 : dx = 0
  · subst h0
    refine ⟨_, double.word false 0, 0, w3, ?_, round_zero false, ?_⟩
    · show double.mul _ (floatOfInt .f64 0) = _
      have hz : floatOfInt .f64 0 = double.word false 0 := by decide
      have r3 : double.read (double.word false ((p3 + 1074).toNat * 4503599627370496 + M3)) = .number false M3 p3 := by
        rw [read_word false _ _ a3 b3 (by omega), show -1074 + ((p3 + 1074).toNat : Int) = p3 by omega]
      unfold Format.mul
      rw [hz, r3, read_zero]
      simp [Datum.product, Format.write, Format.nearest]
    · simp only [Int.zero_mul, Int.mul_zero]
      omega
  · obtain ⟨p, N, P, w5, hr, n1, n2, v1, v2⟩ := prod_fl M3 p3 a3 b3 c3 e3 dx h0 hx
    refine ⟨_, p, _, w3, w5, hr, ?_⟩
    generalize M3 * 2 ^ (p3 + 200).toNat = S at u1 u2 v1 v2
    have x1 : U 6 (P * D.natAbs) (d1.natAbs * dx.natAbs * 2 ^ 252) := by
      have s1 := v1.scale D.natAbs
      have s2 := u1.scale (dx.natAbs * 2 ^ 52)
      have e1 : S * (dx.natAbs * 2 ^ 52) * D.natAbs = S * D.natAbs * (dx.natAbs * 2 ^ 52) := Nat.mul_right_comm _ _ _
      have e2 : d1.natAbs * 2 ^ 200 * (dx.natAbs * 2 ^ 52) = d1.natAbs * dx.natAbs * 2 ^ 252 := by
        rw [show (252 : Nat) = 200 + 52 by decide, Nat.pow_add, ← Nat.mul_assoc, ← Nat.mul_assoc, Nat.mul_right_comm d1.natAbs]
      rw [e1] at s1
      rw [e2] at s2
      exact s1.trans s2
    have x2 : U 6 (d1.natAbs * dx.natAbs * 2 ^ 252) (P * D.natAbs) := by
      have s1 := v2.scale D.natAbs
      have s2 := u2.scale (dx.natAbs * 2 ^ 52)
      have e1 : S * (dx.natAbs * 2 ^ 52) * D.natAbs = S * D.natAbs * (dx.natAbs * 2 ^ 52) := Nat.mul_right_comm _ _ _
      have e2 : d1.natAbs * 2 ^ 200 * (dx.natAbs * 2 ^ 52) = d1.natAbs * dx.natAbs * 2 ^ 252 := by
        rw [show (252 : Nat) = 200 + 52 by decide, Nat.pow_add, ← Nat.mul_assoc, ← Nat.mul_assoc, Nat.mul_right_comm d1.natAbs]
      rw [e1] at s1
      rw [e2] at s2
      exact s2.trans s1
    obtain ⟨l1, l2⟩ := last_step P N D.natAbs d1.natAbs dx.natAbs (by omega) (by omega) x1 x2 n1 n2
    have z1 : ((N * D.natAbs : Nat) : Int) = (N : Int) * (D.natAbs : Int) := Int.natCast_mul _ _
    have z2 : ((d1.natAbs * dx.natAbs : Nat) : Int) = (d1.natAbs : Int) * (dx.natAbs : Int) := Int.natCast_mul _ _
    clear u1 u2 v1 v2 x1 x2 n1 n2 w3 w5 hr
    rcases h with ⟨h1, h2⟩ | ⟨h1, h2⟩
    · have eD : (D.natAbs : Int) = D := by omega
      have ed : (d1.natAbs : Int) = d1 := by omega
      by_cases hn : dx < 0
      · have ex : (dx.natAbs : Int) = -dx := by omega
        rw [eD] at z1
        rw [ed, ex, Int.mul_neg] at z2
        simp only [hn, decide_true, if_true, Int.neg_mul]
        omega
      · have ex : (dx.natAbs : Int) = dx := by omega
        rw [eD] at z1
        rw [ed, ex] at z2
        simp only [hn, decide_false, Bool.false_eq_true, if_false]
        omega
    · have eD : (D.natAbs : Int) = -D := by omega
      have ed : (d1.natAbs : Int) = -d1 := by omega
      by_cases hn : dx < 0
      · have ex : (dx.natAbs : Int) = -dx := by omega
        rw [eD, Int.mul_neg] at z1
        rw [ed, ex, Int.neg_mul_neg] at z2
        simp only [hn, decide_true, if_true, Int.neg_mul]
        omega
      · have ex : (dx.natAbs : Int) = dx := by omega
        rw [eD, Int.mul_neg] at z1
        rw [ed, ex, Int.neg_mul] at z2
        simp only [hn, decide_false, Bool.false_eq_true, if_false]
        omega

/-- so it is no greater than the edge is long, but for one -/
theorem off_bd (d1 D dx n : Int) (h : (0 < d1 ∧ d1 < D) ∨ (D < d1 ∧ d1 < 0)) (hx : -1073741824 ≤ dx ∧ dx ≤ 1073741824)
    (b1 : 1024 * (n * D - d1 * dx) ≤ 513 * (D.natAbs : Int)) (b2 : -(513 * (D.natAbs : Int)) ≤ 1024 * (n * D - d1 * dx)) : -1073741825 ≤ n ∧ n ≤ 1073741825 := by
  have key : ∀ a A m : Int, 0 < a → a < A → 1024 * (m * A - a * dx) ≤ 513 * A → -(513 * A) ≤ 1024 * (m * A - a * dx) → -1073741825 ≤ m ∧ m ≤ 1073741825 := by
    intro a A m ha hA c1 c2
    have e1 : a * dx ≤ A * 1073741824 := by
      have x1 : a * dx ≤ a * 1073741824 := Int.mul_le_mul_of_nonneg_left hx.2 (by omega)
      omega
    have e2 : A * -1073741824 ≤ a * dx := by
      have x1 : a * -1073741824 ≤ a * dx := Int.mul_le_mul_of_nonneg_left hx.1 (by omega)
      omega
    constructor
    · rcases Int.lt_or_le m (-1073741825) with hm | hm
      · have : m * A ≤ -1073741826 * A := Int.mul_le_mul_of_nonneg_right (by omega) (by omega)
        omega
      · exact hm
    · rcases Int.lt_or_le 1073741825 m with hm | hm
      · have : 1073741826 * A ≤ m * A := Int.mul_le_mul_of_nonneg_right (by omega) (by omega)
        omega
      · exact hm
  rcases h with ⟨h1, h2⟩ | ⟨h1, h2⟩
  · have eD : (D.natAbs : Int) = D := by omega
    rw [eD] at b1 b2
    exact key d1 D n h1 h2 b1 b2
  · have eD : (D.natAbs : Int) = -D := by omega
    rw [eD] at b1 b2
    have e3 : n * -D = -(n * D) := Int.mul_neg _ _
    have e4 : -d1 * dx = -(d1 * dx) := Int.neg_mul _ _
    refine key (-d1) (-D) n (by omega) (by omega) ?_ ?_
    · rw [e3, e4]; omega
    · rw [e3, e4]; omega

end Go.Proofs.Qxb6609068a.Fl
