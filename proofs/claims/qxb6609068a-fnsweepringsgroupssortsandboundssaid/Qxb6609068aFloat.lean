/-
  THE PLAIN LAWS of the float64 arithmetic that 'meet' does: whole numbers alone.
-/
import Derived.Laws.FloatArith
import Derived.Laws.Bits64
namespace Go.Proofs.Qxb6609068a.Fl
open Ieee

theorem binade_eq : double.binade = 4503599627370496 := by decide
theorem least_eq : double.leastPlace = -1074 := by decide
theorem inf_eq : double.infRung = 9218868437227405312 := by decide
theorem sign_eq : double.signWeight = 9223372036854775808 := by decide

/-- what 'cut' to the nearest leaves -/
theorem cut_near (neg : Bool) (n k : Nat) (hk : k ≤ n.log2 + 2) :
    2 * (Toward.even.cut neg n k * 2 ^ k) ≤ 2 * n + 2 ^ k ∧ 2 * n ≤ 2 * (Toward.even.cut neg n k * 2 ^ k) + 2 ^ k ∧
    n / 2 ^ k ≤ Toward.even.cut neg n k ∧ Toward.even.cut neg n k ≤ n / 2 ^ k + 1 := by
  unfold Toward.cut
  simp only [Nat.min_eq_left hk, Nat.one_shiftLeft]
  have hG : 0 < 2 ^ k := Nat.two_pow_pos k
  generalize 2 ^ k = G at hG ⊢
  have hd := Nat.div_add_mod n G
  have hm := Nat.mod_lt n hG
  have e1 : ∀ c, (n / G + c) * G = G * (n / G) + c * G := by intro c; rw [Nat.add_mul, Nat.mul_comm G]
  cases hmore : (decide (G < 2 * (n % G)) || (G == 2 * (n % G) && n / G % 2 == 1))
  · simp only [Bool.or_eq_false_iff, decide_eq_false_iff_not] at hmore
    simp only [Bool.toNat_false, e1]
    omega
  · have hh : G ≤ 2 * (n % G) := by
      simp only [Bool.or_eq_true, decide_eq_true_eq, Bool.and_eq_true, beq_iff_eq] at hmore
      omega
    simp only [Bool.toNat_true, e1]
    omega

theorem cut_zero (neg : Bool) (n : Nat) : Toward.even.cut neg n 0 = n := by
  unfold Toward.cut
  simp [Nat.mod_one]

/-- the word of a sign and a rung, read -/
theorem read_word (neg : Bool) (t kept : Nat) (h1 : 4503599627370496 ≤ kept) (h2 : kept < 9007199254740992) (ht : t ≤ 2045) :
    double.read (double.word neg (t * 4503599627370496 + kept)) = .number neg kept (-1074 + (t : Int)) := by
  unfold Format.read Format.word
  rw [binade_eq, least_eq, inf_eq, sign_eq]
  have hlt : t * 4503599627370496 + kept < 9218868437227405312 := by omega
  have e1 : (t * 4503599627370496 + kept) / 4503599627370496 = t + 1 := by omega
  have e2 : 4503599627370496 + (t * 4503599627370496 + kept) % 4503599627370496 = kept := by omega
  cases neg
  · simp only [Bool.false_eq_true, if_false]
    have s1 : (t * 4503599627370496 + kept) / 9223372036854775808 % 2 = 0 := by omega
    have s2 : (t * 4503599627370496 + kept) % 9223372036854775808 = t * 4503599627370496 + kept := by omega
    rw [s1, s2, if_neg (by omega), if_pos hlt, e1, e2]
    rfl
  · simp only [if_true]
    have s1 : (9223372036854775808 + (t * 4503599627370496 + kept)) / 9223372036854775808 % 2 = 1 := by omega
    have s2 : (9223372036854775808 + (t * 4503599627370496 + kept)) % 9223372036854775808 = t * 4503599627370496 + kept := by omega
    rw [s1, s2, if_neg (by omega), if_pos hlt, e1, e2]
    rfl

/-- a is q but for one part in 2^53 -/
def Ap (a q : Nat) : Prop := 9007199254740992 * a ≤ 9007199254740993 * q ∧ 9007199254740991 * q ≤ 9007199254740992 * a

theorem Ap.same (q : Nat) : Ap q q := by unfold Ap; omega

theorem Ap.scale {a q : Nat} (h : Ap a q) (c : Nat) : Ap (a * c) (q * c) := by
  unfold Ap at h ⊢
  simp only [← Nat.mul_assoc]
  exact ⟨Nat.mul_le_mul_right c h.1, Nat.mul_le_mul_right c h.2⟩

theorem pow_join (m : Nat) (a b : Nat) : m * 2 ^ a * 2 ^ b = m * 2 ^ (a + b) := by rw [Nat.pow_add, Nat.mul_assoc]

theorem nearest_word (neg : Bool) (mag : Nat) (place : Int) (hm : 0 < mag) (lo : -1022 ≤ place + mag.log2) (hi : place + mag.log2 ≤ 900) :
    ∃ (M : Nat) (p : Int), double.nearest neg mag place = double.word neg ((p + 1074).toNat * 4503599627370496 + M) ∧ 4503599627370496 ≤ M ∧ M < 9007199254740992 ∧
      place + mag.log2 - 52 ≤ p ∧ p ≤ place + mag.log2 - 51 ∧ ∀ b : Int, b ≤ p → b ≤ place → Ap (M * 2 ^ (p - b).toNat) (mag * 2 ^ (place - b).toNat) := by
  have l1 : 2 ^ mag.log2 ≤ mag := Nat.log2_self_le (by omega)
  have l2 : mag < 2 ^ (mag.log2 + 1) := Nat.lt_log2_self
  have hfr : double.fractionBits = 52 := rfl
  unfold Format.nearest
  rw [if_neg (by omega), binade_eq, least_eq, inf_eq, hfr]
  have hlast : max (place + (mag.log2 : Int) - ((52 : Nat) : Int)) (-1074) = place + mag.log2 - 52 := by omega
  simp only [hlast]
  by_cases h52 : mag.log2 ≤ 52
  · have e1 : (place - (place + (mag.log2 : Int) - 52)).toNat = 52 - mag.log2 := by omega
    have e2 : (place + (mag.log2 : Int) - 52 - place).toNat = 0 := by omega
    have e3 : (place + (mag.log2 : Int) - 52 - -1074).toNat = (place + (mag.log2 : Int) - 52 + 1074).toNat := by omega
    rw [e1, e2, e3, cut_zero, Nat.shiftLeft_eq]
    have p1 : 4503599627370496 ≤ mag * 2 ^ (52 - mag.log2) := by
      have : 2 ^ mag.log2 * 2 ^ (52 - mag.log2) ≤ mag * 2 ^ (52 - mag.log2) := Nat.mul_le_mul_right _ l1
      rw [← Nat.pow_add, show mag.log2 + (52 - mag.log2) = 52 by omega] at this
      exact this
    have p2 : mag * 2 ^ (52 - mag.log2) < 9007199254740992 := by
      have : mag * 2 ^ (52 - mag.log2) < 2 ^ (mag.log2 + 1) * 2 ^ (52 - mag.log2) := Nat.mul_lt_mul_of_pos_right l2 (Nat.two_pow_pos _)
      rw [← Nat.pow_add, show mag.log2 + 1 + (52 - mag.log2) = 53 by omega] at this
      exact this
    refine ⟨mag * 2 ^ (52 - mag.log2), place + mag.log2 - 52, ?_, p1, p2, by omega, by omega, ?_⟩
    · rw [Nat.min_eq_left (by omega)]
    · intro b hb1 hb2
      rw [pow_join, show 52 - mag.log2 + (place + (mag.log2 : Int) - 52 - b).toNat = (place - b).toNat by omega]
      exact Ap.same _
  · have e1 : (place - (place + (mag.log2 : Int) - 52)).toNat = 0 := by omega
    have e2 : (place + (mag.log2 : Int) - 52 - place).toNat = mag.log2 - 52 := by omega
    have e3 : (place + (mag.log2 : Int) - 52 - -1074).toNat = (place + (mag.log2 : Int) - 52 + 1074).toNat := by omega
    rw [e1, e2, e3, Nat.shiftLeft_zero]
    obtain ⟨c1, c2, c3, c4⟩ := cut_near neg mag (mag.log2 - 52) (by omega)
    generalize Toward.even.cut neg mag (mag.log2 - 52) = kept at c1 c2 c3 c4 ⊢
    have d1 : 4503599627370496 ≤ mag / 2 ^ (mag.log2 - 52) := by
      rw [Nat.le_div_iff_mul_le (Nat.two_pow_pos _)]
      have : 2 ^ 52 * 2 ^ (mag.log2 - 52) = 2 ^ mag.log2 := by rw [← Nat.pow_add]; congr 1; omega
      have e : (4503599627370496 : Nat) = 2 ^ 52 := by decide
      rw [e, this]; exact l1
    have d2 : mag / 2 ^ (mag.log2 - 52) < 9007199254740992 := by
      rw [Nat.div_lt_iff_lt_mul (Nat.two_pow_pos _)]
      have : 2 ^ 53 * 2 ^ (mag.log2 - 52) = 2 ^ (mag.log2 + 1) := by rw [← Nat.pow_add]; congr 1; omega
      have e : (9007199254740992 : Nat) = 2 ^ 53 := by decide
      rw [e, this]; exact l2
    have d3 : 2 ^ (mag.log2 - 52) * 4503599627370496 ≤ mag := by
      have : 2 ^ (mag.log2 - 52) * 2 ^ 52 = 2 ^ mag.log2 := by rw [← Nat.pow_add]; congr 1; omega
      have e : (4503599627370496 : Nat) = 2 ^ 52 := by decide
      rw [e, this]; exact l1
    have ap : Ap (kept * 2 ^ (mag.log2 - 52)) mag := by
      unfold Ap
      generalize 2 ^ (mag.log2 - 52) = G at c1 c2 d3 ⊢
      generalize kept * G = KG at c1 c2 ⊢
      omega
    have k1 : 4503599627370496 ≤ kept := Nat.le_trans d1 c3
    have k2 : kept ≤ 9007199254740992 := Nat.le_trans c4 d2
    clear c1 c2 c3 c4 d1 d2 d3 l1 l2
    generalize mag.log2 = lg at *
    by_cases hk : kept < 9007199254740992
    · refine ⟨kept, place + lg - 52, ?_, by omega, hk, by omega, by omega, ?_⟩
      · rw [Nat.min_eq_left (by omega)]
      · intro b hb1 hb2
        have := ap.scale (2 ^ (place - b).toNat)
        rw [pow_join, show lg - 52 + (place - b).toNat = (place + (lg : Int) - 52 - b).toNat by omega] at this
        exact this
    · have hk' : kept = 9007199254740992 := by omega
      refine ⟨4503599627370496, place + lg - 51, ?_, by omega, by omega, by omega, by omega, ?_⟩
      · rw [Nat.min_eq_left (by omega)]
        have e : (place + (lg : Int) - 52 + 1074).toNat * 4503599627370496 + kept = (place + (lg : Int) - 51 + 1074).toNat * 4503599627370496 + 4503599627370496 := by omega
        rw [e]
      · intro b hb1 hb2
        have := ap.scale (2 ^ (place - b).toNat)
        rw [pow_join, hk', show lg - 52 + (place - b).toNat = (place + (lg : Int) - 52 - b).toNat by omega] at this
        have e : (4503599627370496 : Nat) * 2 ^ (place + (lg : Int) - 51 - b).toNat = 9007199254740992 * 2 ^ (place + (lg : Int) - 52 - b).toNat := by
          rw [show (place + (lg : Int) - 51 - b).toNat = (place + (lg : Int) - 52 - b).toNat + 1 by omega, Nat.pow_succ]
          generalize 2 ^ (place + (lg : Int) - 52 - b).toNat = X
          omega
        rw [e]; exact this

/-! ### math.Round, on words -/
theorem toNat_ofInt64 (a : Nat) (ha : a < 18446744073709551616) : (BitVec.ofInt 64 (a : Int)).toNat = a := by
  rw [BitVec.ofInt_natCast, BitVec.toNat_ofNat]; exact Nat.mod_eq_of_lt (by omega)

theorem and_u64 (a b : Nat) (ha : a < 18446744073709551616) (hb : b < 18446744073709551616) : bits .and .u64 (a : Int) (b : Int) = ((a &&& b : Nat) : Int) := by
  have hx : a &&& b ≤ a := Nat.and_le_left
  show IntKind.u64.wrap ((BitVec.ofInt 64 (a : Int) &&& BitVec.ofInt 64 (b : Int)).toNat : Int) = _
  rw [BitVec.toNat_and, toNat_ofInt64 a ha, toNat_ofInt64 b hb, IntKind.wrap_u64]
  omega

theorem or_u64 (a b : Nat) (ha : a < 18446744073709551616) (hb : b < 18446744073709551616) : bits .or .u64 (a : Int) (b : Int) = ((a ||| b : Nat) : Int) := by
  have hx : a ||| b < 2 ^ 64 := Nat.or_lt_two_pow (by omega) (by omega)
  show IntKind.u64.wrap ((BitVec.ofInt 64 (a : Int) ||| BitVec.ofInt 64 (b : Int)).toNat : Int) = _
  rw [BitVec.toNat_or, toNat_ofInt64 a ha, toNat_ofInt64 b hb, IntKind.wrap_u64]
  omega

theorem pow64 : (2 : Nat) ^ 64 = 18446744073709551616 := by decide

theorem mask_high (a m : Nat) (ha : a < 18446744073709551616) (hm : m ≤ 64) : a &&& (2 ^ 64 - 1 - (2 ^ m - 1)) = a / 2 ^ m * 2 ^ m := by
  have h1m : 1 ≤ 2 ^ m := Nat.two_pow_pos m
  have hle : 2 ^ m ≤ 2 ^ 64 := Nat.pow_le_pow_right (by decide) hm
  have e : 2 ^ 64 - 1 - (2 ^ m - 1) = 2 ^ 64 - ((2 ^ m - 1) + 1) := by omega
  have hlt : 2 ^ m - 1 < 2 ^ 64 := by omega
  have ha' : a < 2 ^ 64 := by rw [pow64]; exact ha
  apply Nat.eq_of_testBit_eq
  intro i
  rw [Nat.testBit_and, ← Nat.shiftRight_eq_div_pow, ← Nat.shiftLeft_eq, Nat.testBit_shiftLeft, Nat.testBit_shiftRight, e, Nat.testBit_two_pow_sub_succ hlt, Nat.testBit_two_pow_sub_one]
  by_cases h1 : m ≤ i
  · have e2 : m + (i - m) = i := by omega
    rw [e2]
    have h3 : ¬ i < m := by omega
    by_cases h2 : i < 64
    · simp [h1, h2, h3]
    · have : a.testBit i = false := Nat.testBit_lt_two_pow (Nat.lt_of_lt_of_le ha' (Nat.pow_le_pow_right (by decide) (by omega)))
      simp [this]
  · have h3 : i < m := by omega
    simp [h1, h3]

theorem andNot_u64 (a m : Nat) (ha : a < 18446744073709551616) (hm : m ≤ 64) : bits .andNot .u64 (a : Int) ((2 ^ m - 1 : Nat) : Int) = ((a / 2 ^ m * 2 ^ m : Nat) : Int) := by
  have hb : 2 ^ m - 1 < 18446744073709551616 := by
    have h1 : 2 ^ m ≤ 2 ^ 64 := Nat.pow_le_pow_right (by decide) hm
    have h2 : 1 ≤ 2 ^ m := Nat.two_pow_pos m
    have := pow64
    omega
  have hle : a / 2 ^ m * 2 ^ m ≤ a := Nat.div_mul_le_self _ _
  show IntKind.u64.wrap ((BitVec.ofInt 64 (a : Int) &&& ~~~BitVec.ofInt 64 ((2 ^ m - 1 : Nat) : Int)).toNat : Int) = _
  rw [BitVec.toNat_and, BitVec.toNat_not, toNat_ofInt64 a ha, toNat_ofInt64 _ hb, mask_high a m ha hm, IntKind.wrap_u64]
  omega

/-- the biased exponent of a word -/
def eB (B : Nat) : Int := bits .and .u64 ((B : Int) / 4503599627370496) 2047

/-- what math.Round makes of a word -/
def roundBits (B : Nat) : Nat :=
  if eB B < 1023 then
    (if eB B = 1022 then (bits .or .u64 (bits .and .u64 (B : Int) 9223372036854775808) 4607182418800017408).toNat else (bits .and .u64 (B : Int) 9223372036854775808).toNat)
  else if eB B < 1075 then (bits .andNot .u64 (IntKind.u64.wrap ((B : Int) + 2251799813685248 / 2 ^ (eB B - 1023).toNat)) (4503599627370495 / 2 ^ (eB B - 1023).toNat)).toNat
  else B

theorem eB_word (neg : Bool) (r : Nat) (hr : r < 9223372036854775808) : eB (double.word neg r) = ((r / 4503599627370496 : Nat) : Int) := by
  have e : ∀ B : Nat, B < 18446744073709551616 → eB B = ((B / 4503599627370496 % 2048 : Nat) : Int) := by
    intro B hB
    unfold eB
    rw [show ((B : Int) / 4503599627370496) = ((B / 4503599627370496 : Nat) : Int) by omega, show (2047 : Int) = ((2047 : Nat) : Int) by rfl, and_u64 _ _ (by omega) (by omega)]
    have h := Nat.and_two_pow_sub_one_eq_mod (B / 4503599627370496) 11
    have e1 : (2 : Nat) ^ 11 - 1 = 2047 := by decide
    have e2 : (2 : Nat) ^ 11 = 2048 := by decide
    rw [e1, e2] at h
    rw [h]
  unfold Format.word
  rw [sign_eq]
  cases neg
  · simp only [Bool.false_eq_true, if_false]
    rw [e _ (by omega)]; omega
  · simp only [if_true]
    rw [e _ (by omega)]; omega

theorem sign_word (neg : Bool) (r : Nat) (hr : r < 9223372036854775808) : bits .and .u64 ((double.word neg r : Nat) : Int) 9223372036854775808 = ((double.word neg 0 : Nat) : Int) := by
  have e : ∀ B : Nat, B < 18446744073709551616 → bits .and .u64 (B : Int) 9223372036854775808 = ((B / 9223372036854775808 * 9223372036854775808 : Nat) : Int) := by
    intro B hB
    rw [show (9223372036854775808 : Int) = ((9223372036854775808 : Nat) : Int) by rfl, and_u64 _ _ hB (by omega)]
    have h := mask_high B 63 hB (by decide)
    have e1 : (2 : Nat) ^ 64 - 1 - (2 ^ 63 - 1) = 9223372036854775808 := by decide
    have e2 : (2 : Nat) ^ 63 = 9223372036854775808 := by decide
    rw [e1, e2] at h
    rw [h]
  unfold Format.word
  rw [sign_eq]
  cases neg
  · simp only [Bool.false_eq_true, if_false]
    rw [e _ (by omega)]; omega
  · simp only [if_true]
    rw [e _ (by omega)]; omega

end Go.Proofs.Qxb6609068a.Fl
