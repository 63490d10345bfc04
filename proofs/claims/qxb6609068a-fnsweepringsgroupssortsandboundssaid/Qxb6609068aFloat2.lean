/-
  math.Round and the cut to an integer, on words: whole numbers alone.
-/
import Derived.Test.Qxb6609068aFloat
namespace Go.Proofs.Qxb6609068a.Fl
open Ieee

theorem cut_down (neg : Bool) (n k : Nat) (hk : k ≤ n.log2 + 2) : Toward.zero.cut neg n k = n / 2 ^ k := by
  unfold Toward.cut
  simp [Nat.min_eq_left hk, Nat.one_shiftLeft]

/-- 'int64' of a number of 53 digits with a fraction -/
theorem int_of_number (neg : Bool) (K j N : Nat) (B : Nat) (hr : double.read B = .number neg K (-(j : Int))) (h1 : 4503599627370496 ≤ K) (h2 : K ≤ 9007199254740992) (hj : 1 ≤ j) (hj2 : j ≤ 52) (hN : K = N * 2 ^ j) :
    floatToIntVal .f64 B .i64 = some (if neg then -(N : Int) else (N : Int)) := by
  have hl : 52 ≤ K.log2 := by
    rw [Nat.le_log2 (by omega)]
    exact h1
  have hc : Toward.zero.cut neg K j = N := by
    rw [cut_down neg K j (by omega), hN]
    exact Nat.mul_div_cancel _ (Nat.two_pow_pos j)
  have hN2 : N ≤ 9007199254740992 := by
    have : N * 1 ≤ N * 2 ^ j := Nat.mul_le_mul_left N (Nat.two_pow_pos j)
    omega
  unfold floatToIntVal
  have hd : FloatKind.f64.decode B = .number neg K (-(j : Int)) := hr
  rw [hd]
  unfold Datum.toInt Datum.integral
  have e1 : (-(j : Int)).toNat = 0 := by omega
  have e2 : (- -(j : Int)).toNat = j := by omega
  simp only [e1, e2, Nat.shiftLeft_zero, hc, signed]
  have m1 : IntKind.i64.min = -9223372036854775808 := by decide
  have m2 : IntKind.i64.max = 9223372036854775807 := by decide
  rw [m1, m2]
  cases neg
  · simp only [Bool.false_eq_true, if_false]
    rw [if_pos (by omega)]
  · simp only [if_true]
    rw [if_pos (by omega)]

theorem int_of_zero (neg : Bool) (B : Nat) (hr : double.read B = .number neg 0 (-1074)) : floatToIntVal .f64 B .i64 = some 0 := by
  unfold floatToIntVal
  have hd : FloatKind.f64.decode B = .number neg 0 (-1074) := hr
  rw [hd]
  cases neg <;> decide

theorem read_zero (neg : Bool) : double.read (double.word neg 0) = .number neg 0 (-1074) := by
  cases neg <;> decide

theorem word_lt (neg : Bool) (r : Nat) (hr : r < 9223372036854775808) : double.word neg r < 18446744073709551616 := by
  unfold Format.word
  rw [sign_eq]
  split <;> omega

/-- a zero stays one -/
theorem round_zero (neg : Bool) : floatToIntVal .f64 (roundBits (double.word neg 0)) .i64 = some 0 := by
  have hE := eB_word neg 0 (by decide)
  have e0 : ((0 / 4503599627370496 : Nat) : Int) = 0 := by decide
  rw [e0] at hE
  unfold roundBits
  rw [hE, if_pos (by decide), if_neg (by decide), sign_word neg 0 (by decide), Int.toNat_natCast]
  exact int_of_zero neg _ (read_zero neg)

theorem or_one (neg : Bool) : bits .or .u64 ((double.word neg 0 : Nat) : Int) 4607182418800017408 = ((double.word neg 4607182418800017408 : Nat) : Int) := by
  rw [show (4607182418800017408 : Int) = ((4607182418800017408 : Nat) : Int) by rfl, or_u64 _ _ (word_lt neg 0 (by decide)) (by decide)]
  cases neg <;> decide

/-- the parts of a word that a power of two divides stay out of the cut -/
theorem cut_word (neg : Bool) (t M j : Nat) (hj : j ≤ 52) : (double.word neg (t * 4503599627370496 + M) / 2 ^ j * 2 ^ j) = double.word neg (t * 4503599627370496 + M / 2 ^ j * 2 ^ j) := by
  have hG : 0 < 2 ^ j := Nat.two_pow_pos j
  have e52 : (4503599627370496 : Nat) = 2 ^ (52 - j) * 2 ^ j := by rw [← Nat.pow_add, show 52 - j + j = 52 by omega]
  have e63 : (9223372036854775808 : Nat) = 2 ^ (63 - j) * 2 ^ j := by rw [← Nat.pow_add, show 63 - j + j = 63 by omega]
  have key : ∀ c y : Nat, (c * 2 ^ j + y) / 2 ^ j * 2 ^ j = c * 2 ^ j + y / 2 ^ j * 2 ^ j := by
    intro c y
    rw [Nat.add_comm, Nat.add_mul_div_right _ _ hG, Nat.add_mul, Nat.add_comm]
  unfold Format.word
  rw [sign_eq]
  cases neg
  · simp only [Bool.false_eq_true, if_false]
    rw [e52, ← Nat.mul_assoc, key]
  · simp only [if_true]
    rw [e63, e52, ← Nat.mul_assoc, ← Nat.add_assoc, ← Nat.add_mul, key, Nat.add_mul, Nat.add_assoc]

theorem half_pow (k : Nat) (hk : k ≤ 50) : (2251799813685248 : Int) / 2 ^ k = ((2 ^ (51 - k) : Nat) : Int) := by
  have e : (2251799813685248 : Nat) = 2 ^ (51 - k) * 2 ^ k := by rw [← Nat.pow_add, show 51 - k + k = 51 by omega]
  have h : (2251799813685248 : Nat) / 2 ^ k = 2 ^ (51 - k) := by rw [e]; exact Nat.mul_div_cancel _ (Nat.two_pow_pos k)
  rw [← h, Int.natCast_ediv, Int.natCast_pow]
  rfl

theorem mask_pow (k : Nat) (hk : k ≤ 50) : (4503599627370495 : Int) / 2 ^ k = ((2 ^ (52 - k) - 1 : Nat) : Int) := by
  have e : (4503599627370496 : Nat) = 2 ^ (52 - k) * 2 ^ k := by rw [← Nat.pow_add, show 52 - k + k = 52 by omega]
  have h : (4503599627370495 : Nat) / 2 ^ k = 2 ^ (52 - k) - 1 := by
    have hG : 0 < 2 ^ k := Nat.two_pow_pos k
    have h1 : 1 ≤ 2 ^ (52 - k) := Nat.two_pow_pos _
    have e2 : (4503599627370495 : Nat) = (2 ^ k - 1) + (2 ^ (52 - k) - 1) * 2 ^ k := by
      rw [Nat.sub_mul, ← e, Nat.one_mul]
      have : 2 ^ k ≤ 4503599627370496 := by rw [e]; exact Nat.le_mul_of_pos_left _ h1
      omega
    rw [e2, Nat.add_mul_div_right _ _ hG, Nat.div_eq_of_lt (by omega), Nat.zero_add]
  rw [← h, Int.natCast_ediv, Int.natCast_pow]
  rfl

theorem round_mid (neg : Bool) (M j : Nat) (h1 : 4503599627370496 ≤ M) (h2 : M < 9007199254740992) (j1 : 2 ≤ j) (j2 : j ≤ 52) :
    floatToIntVal .f64 (roundBits (double.word neg ((1074 - j) * 4503599627370496 + M))) .i64 = some (if neg then -(((M + 2 ^ (j - 1)) / 2 ^ j : Nat) : Int) else (((M + 2 ^ (j - 1)) / 2 ^ j : Nat) : Int)) := by
  have hr : (1074 - j) * 4503599627370496 + M < 9223372036854775808 := by omega
  have hE := eB_word neg _ hr
  have hdiv : ((1074 - j) * 4503599627370496 + M) / 4503599627370496 = 1075 - j := by omega
  rw [hdiv] at hE
  have hG : 0 < 2 ^ j := Nat.two_pow_pos j
  have hhalf : 2 ^ j = 2 * 2 ^ (j - 1) := by
    rw [show j = (j - 1) + 1 by omega, Nat.pow_succ, Nat.mul_comm]; congr 1
  have hjle : 2 ^ (j - 1) ≤ 2251799813685248 := by
    have : 2 ^ (j - 1) ≤ 2 ^ 51 := Nat.pow_le_pow_right (by decide) (by omega)
    exact this
  have hk : (((1075 - j : Nat) : Int) - 1023).toNat = 52 - j := by omega
  have key : roundBits (double.word neg ((1074 - j) * 4503599627370496 + M)) = double.word neg ((1074 - j) * 4503599627370496 + (M + 2 ^ (j - 1)) / 2 ^ j * 2 ^ j) := by
    unfold roundBits
    rw [hE, if_neg (by omega), if_pos (by omega), hk, half_pow _ (by omega), mask_pow _ (by omega), show 51 - (52 - j) = j - 1 by omega, show 52 - (52 - j) = j by omega]
    have hw : double.word neg ((1074 - j) * 4503599627370496 + M) + 2 ^ (j - 1) = double.word neg ((1074 - j) * 4503599627370496 + (M + 2 ^ (j - 1))) := by
      unfold Format.word
      split <;> omega
    have hlt : double.word neg ((1074 - j) * 4503599627370496 + (M + 2 ^ (j - 1))) < 18446744073709551616 := word_lt neg _ (by omega)
    rw [← Int.natCast_add, hw, IntKind.wrap_u64, show ((double.word neg ((1074 - j) * 4503599627370496 + (M + 2 ^ (j - 1))) : Nat) : Int) % 18446744073709551616 = ((double.word neg ((1074 - j) * 4503599627370496 + (M + 2 ^ (j - 1))) : Nat) : Int) by omega,
      andNot_u64 _ j hlt (by omega), Int.toNat_natCast, cut_word neg _ _ j j2]
  rw [key]
  have e52 : (4503599627370496 : Nat) = 2 ^ (52 - j) * 2 ^ j := by rw [← Nat.pow_add, show 52 - j + j = 52 by omega]
  have k1 : 4503599627370496 ≤ (M + 2 ^ (j - 1)) / 2 ^ j * 2 ^ j := by
    have : 2 ^ (52 - j) ≤ (M + 2 ^ (j - 1)) / 2 ^ j := by
      rw [Nat.le_div_iff_mul_le hG, ← e52]; omega
    have := Nat.mul_le_mul_right (2 ^ j) this
    rw [← e52] at this
    exact this
  have k2 : (M + 2 ^ (j - 1)) / 2 ^ j * 2 ^ j ≤ 9007199254740992 := by
    have e53 : (9007199254740992 : Nat) = 2 ^ (53 - j) * 2 ^ j := by rw [← Nat.pow_add, show 53 - j + j = 53 by omega]
    have : (M + 2 ^ (j - 1)) / 2 ^ j < 2 ^ (53 - j) + 1 := by
      rw [Nat.div_lt_iff_lt_mul hG, Nat.add_mul, ← e53]; omega
    have := Nat.mul_le_mul_right (2 ^ j) (Nat.le_of_lt_succ this)
    rw [← e53] at this
    exact this
  generalize hNd : (M + 2 ^ (j - 1)) / 2 ^ j = N at k1 k2 ⊢
  by_cases hK : N * 2 ^ j < 9007199254740992
  · refine int_of_number neg (N * 2 ^ j) j N _ ?_ k1 k2 (by omega) j2 rfl
    rw [read_word neg _ _ k1 hK (by omega), show (-1074 + ((1074 - j : Nat) : Int)) = -(j : Int) by omega]
  · have hK' : N * 2 ^ j = 9007199254740992 := by omega
    refine int_of_number neg 4503599627370496 (j - 1) N _ ?_ (by omega) (by omega) (by omega) (by omega) ?_
    · have e : (1074 - j) * 4503599627370496 + N * 2 ^ j = (1074 - (j - 1)) * 4503599627370496 + 4503599627370496 := by omega
      rw [e, read_word neg _ _ (by omega) (by omega) (by omega), show (-1074 + ((1074 - (j - 1) : Nat) : Int)) = -((j - 1 : Nat) : Int) by omega]
    · rw [hhalf, ← Nat.mul_assoc, Nat.mul_comm N 2, Nat.mul_assoc] at hK'
      omega

/-- half away from zero, whatever the exponent -/
theorem round_fl (neg : Bool) (M j : Nat) (h1 : 4503599627370496 ≤ M) (h2 : M < 9007199254740992) (j1 : 2 ≤ j) (j2 : j ≤ 1074) :
    floatToIntVal .f64 (roundBits (double.word neg ((1074 - j) * 4503599627370496 + M))) .i64 = some (if neg then -(((M + 2 ^ (j - 1)) / 2 ^ j : Nat) : Int) else (((M + 2 ^ (j - 1)) / 2 ^ j : Nat) : Int)) := by
  by_cases hj : j ≤ 52
  · exact round_mid neg M j h1 h2 j1 hj
  have hr : (1074 - j) * 4503599627370496 + M < 9223372036854775808 := by omega
  have hE := eB_word neg _ hr
  have hdiv : ((1074 - j) * 4503599627370496 + M) / 4503599627370496 = 1075 - j := by omega
  rw [hdiv] at hE
  by_cases h53 : j = 53
  · subst h53
    have hN : (M + 2 ^ (53 - 1)) / 2 ^ 53 = 1 := by
      have e1 : (2 : Nat) ^ (53 - 1) = 4503599627370496 := by decide
      have e2 : (2 : Nat) ^ 53 = 9007199254740992 := by decide
      rw [e1, e2]; omega
    rw [hN]
    unfold roundBits
    rw [hE, if_pos (by omega), if_pos (by omega), sign_word neg _ hr, or_one neg, Int.toNat_natCast]
    refine int_of_number neg 4503599627370496 52 1 _ ?_ (by omega) (by omega) (by omega) (by omega) (by decide)
    have e : (4607182418800017408 : Nat) = 1022 * 4503599627370496 + 4503599627370496 := by omega
    rw [e, read_word neg _ _ (by omega) (by omega) (by omega), show (-1074 + ((1022 : Nat) : Int)) = -((52 : Nat) : Int) by decide]
  · have hN : (M + 2 ^ (j - 1)) / 2 ^ j = 0 := by
      have : 2 ^ 53 ≤ 2 ^ (j - 1) := Nat.pow_le_pow_right (by decide) (by omega)
      have e2 : (2 : Nat) ^ 53 = 9007199254740992 := by decide
      rw [e2] at this
      have hhalf : 2 ^ j = 2 * 2 ^ (j - 1) := by
        rw [show j = (j - 1) + 1 by omega, Nat.pow_succ, Nat.mul_comm]; congr 1
      exact Nat.div_eq_of_lt (by omega)
    rw [hN]
    unfold roundBits
    rw [hE, if_pos (by omega), if_neg (by omega), sign_word neg _ hr, Int.toNat_natCast, int_of_zero neg _ (read_zero neg)]
    cases neg <;> rfl

end Go.Proofs.Qxb6609068a.Fl
