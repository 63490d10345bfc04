/-
  The chain of four roundings, and what its end is good for: whole numbers alone.
-/
import Derived.Test.Qxb6609068aFloat2
namespace Go.Proofs.Qxb6609068a.Fl
open Ieee

/-! ### a is at most q but for n roundings -/
def U (n a q : Nat) : Prop := a * 9007199254740992 ^ n ≤ q * 9007199254740994 ^ n

theorem U.of_ap {a q : Nat} (h : Ap a q) : U 1 a q ∧ U 1 q a := by
  unfold Ap at h; unfold U; simp only [Nat.pow_one]; omega

theorem U.trans {n m a b c : Nat} (h : U n a b) (k : U m b c) : U (n + m) a c := by
  unfold U at h k ⊢
  calc a * 9007199254740992 ^ (n + m) = a * 9007199254740992 ^ n * 9007199254740992 ^ m := by rw [Nat.pow_add, Nat.mul_assoc]
    _ ≤ b * 9007199254740994 ^ n * 9007199254740992 ^ m := Nat.mul_le_mul_right _ h
    _ = b * 9007199254740992 ^ m * 9007199254740994 ^ n := by rw [Nat.mul_assoc, Nat.mul_comm (9007199254740994 ^ n), ← Nat.mul_assoc]
    _ ≤ c * 9007199254740994 ^ m * 9007199254740994 ^ n := Nat.mul_le_mul_right _ k
    _ = c * 9007199254740994 ^ (n + m) := by rw [Nat.mul_assoc, ← Nat.pow_add, Nat.add_comm]

theorem U.scale {n a q : Nat} (h : U n a q) (c : Nat) : U n (a * c) (q * c) := by
  unfold U at h ⊢
  rw [Nat.mul_right_comm, Nat.mul_right_comm q]
  exact Nat.mul_le_mul_right c h

/-! ### one operation -/
theorem log2_52 (M : Nat) (h1 : 4503599627370496 ≤ M) (h2 : M < 9007199254740992) : M.log2 = 52 := by
  have a : 52 ≤ M.log2 := by rw [Nat.le_log2 (by omega)]; exact h1
  have b : M.log2 < 53 := by rw [Nat.log2_lt (by omega)]; exact h2
  omega

/-- float64(n) -/
theorem of_int (n : Int) (h0 : n ≠ 0) (h1 : -9223372036854775808 < n ∧ n < 9223372036854775808) :
    ∃ (M : Nat) (p : Int), floatOfInt .f64 n = double.word (decide (n < 0)) ((p + 1074).toNat * 4503599627370496 + M) ∧ 4503599627370496 ≤ M ∧ M < 9007199254740992 ∧ -52 ≤ p ∧ p ≤ 11 ∧ (n.natAbs.log2 : Int) - 52 ≤ p ∧ p ≤ (n.natAbs.log2 : Int) - 51 ∧
      Ap (M * 2 ^ (p + 52).toNat) (n.natAbs * 2 ^ 52) := by
  have hm : 0 < n.natAbs := by omega
  have hl : n.natAbs.log2 < 63 := by
    rw [Nat.log2_lt (by omega)]
    have : (2 : Nat) ^ 63 = 9223372036854775808 := by decide
    omega
  obtain ⟨M, p, hw, a, b, c, d, ap⟩ := nearest_word (decide (n < 0)) n.natAbs 0 hm (by omega) (by omega)
  refine ⟨M, p, hw, a, b, by omega, by omega, by omega, by omega, ?_⟩
  have := ap (-52) (by omega) (by omega)
  rw [show (p - -52) = p + 52 by omega, show (0 - (-52 : Int)).toNat = 52 by decide] at this
  exact this

/-- x / y -/
theorem div_fl (s1 s2 : Bool) (M1 M2 : Nat) (p1 p2 : Int) (a1 : 4503599627370496 ≤ M1) (b1 : M1 < 9007199254740992) (a2 : 4503599627370496 ≤ M2) (b2 : M2 < 9007199254740992)
    (c1 : -52 ≤ p1) (d1 : p1 ≤ 11) (c2 : -52 ≤ p2) (d2 : p2 ≤ 11) :
    ∃ (q M3 : Nat) (p3 : Int), double.div (double.word s1 ((p1 + 1074).toNat * 4503599627370496 + M1)) (double.word s2 ((p2 + 1074).toNat * 4503599627370496 + M2)) = some (double.word (s1 ^^ s2) ((p3 + 1074).toNat * 4503599627370496 + M3)) ∧
      4503599627370496 ≤ M3 ∧ M3 < 9007199254740992 ∧ p1 - p2 - 53 ≤ p3 ∧ p3 ≤ p1 - p2 - 51 ∧ Ap (M3 * 2 ^ (p3 - (p1 - p2 - 55)).toNat) q ∧ Ap (q * M2) (M1 * 2 ^ 55) := by
  have r1 : double.read (double.word s1 ((p1 + 1074).toNat * 4503599627370496 + M1)) = .number s1 M1 p1 := by
    rw [read_word s1 _ _ a1 b1 (by omega), show -1074 + ((p1 + 1074).toNat : Int) = p1 by omega]
  have r2 : double.read (double.word s2 ((p2 + 1074).toNat * 4503599627370496 + M2)) = .number s2 M2 p2 := by
    rw [read_word s2 _ _ a2 b2 (by omega), show -1074 + ((p2 + 1074).toNat : Int) = p2 by omega]
  have hfr : double.fractionBits = 52 := rfl
  unfold Format.div
  rw [r1, r2, hfr]
  unfold Datum.quotient
  simp only [log2_52 M1 a1 b1, log2_52 M2 a2 b2]
  rw [if_neg (by omega)]
  have e54 : 52 + 2 + 52 - 52 = 54 := by decide
  simp only [e54, Nat.shiftLeft_eq, Option.map_some, Format.write]
  have hdm := Nat.div_add_mod (M1 * 2 ^ 54) M2
  have hml : M1 * 2 ^ 54 % M2 < M2 := Nat.mod_lt _ (by omega)
  have e2p : (2 : Nat) ^ 54 = 18014398509481984 := by decide
  have e2q : (2 : Nat) ^ 55 = 36028797018963968 := by decide
  have lo : 9007199254740992 ≤ M1 * 2 ^ 54 / M2 := by
    rw [Nat.le_div_iff_mul_le (by omega), e2p]; omega
  have hi : M1 * 2 ^ 54 / M2 < 36028797018963968 := by
    rw [Nat.div_lt_iff_lt_mul (by omega), e2p]; omega
  obtain ⟨c, hc, hc0, hc1⟩ : ∃ c : Nat, (M1 * 2 ^ 54 % M2 != 0).toNat = c ∧ c ≤ 1 ∧ (c = 0 → M1 * 2 ^ 54 % M2 = 0) := by
    by_cases h : M1 * 2 ^ 54 % M2 = 0
    · exact ⟨0, by simp [h], by omega, fun _ => h⟩
    · exact ⟨1, by simp [h], by omega, fun h' => by omega⟩
  rw [hc]
  generalize M1 * 2 ^ 54 / M2 = d at hdm lo hi ⊢
  generalize M1 * 2 ^ 54 % M2 = r at hdm hml hc1
  clear hc r1 r2 hfr
  have hq1 : 18014398509481984 ≤ 2 * d + c := by omega
  have hq2 : 2 * d + c < 72057594037927936 := by omega
  have apq : Ap ((2 * d + c) * M2) (M1 * 2 ^ 55) := by
    unfold Ap
    rw [Nat.add_mul, Nat.mul_assoc 2 d M2, Nat.mul_comm d M2, e2q]
    rw [e2p] at hdm
    generalize M2 * d = md at hdm ⊢
    have hcm : c * M2 = 0 ∧ c = 0 ∨ c * M2 = M2 ∧ c = 1 := by
      rcases (by omega : c = 0 ∨ c = 1) with rfl | rfl
      · left; simp
      · right; simp
    rcases hcm with ⟨h, h'⟩ | ⟨h, h'⟩
    · have := hc1 h'
      rw [h]; omega
    · rw [h]; omega
  generalize 2 * d + c = q at hq1 hq2 apq ⊢
  have l1 : 54 ≤ q.log2 := by rw [Nat.le_log2 (by omega), e2p]; exact hq1
  have l2 : q.log2 < 56 := by
    rw [Nat.log2_lt (by omega)]
    have : (2 : Nat) ^ 56 = 72057594037927936 := by decide
    omega
  obtain ⟨M3, p3, hw, a, b, e, f, ap⟩ := nearest_word (s1 ^^ s2) q (p1 - p2 - ((54 : Nat) : Int) - 1) (by omega) (by omega) (by omega)
  refine ⟨q, M3, p3, by rw [hw], a, b, by omega, by omega, ?_, apq⟩
  have := ap (p1 - p2 - 55) (by omega) (by omega)
  rw [show (p1 - p2 - ((54 : Nat) : Int) - 1 - (p1 - p2 - 55)).toNat = 0 by omega, Nat.pow_zero, Nat.mul_one] at this
  exact this

/-- x * y -/
theorem mul_fl (s1 s2 : Bool) (M1 M2 : Nat) (p1 p2 : Int) (a1 : 4503599627370496 ≤ M1) (b1 : M1 < 9007199254740992) (a2 : 4503599627370496 ≤ M2) (b2 : M2 < 9007199254740992)
    (c1 : -400 ≤ p1) (d1 : p1 ≤ 100) (c2 : -400 ≤ p2) (d2 : p2 ≤ 100) :
    ∃ (M3 : Nat) (p3 : Int), double.mul (double.word s1 ((p1 + 1074).toNat * 4503599627370496 + M1)) (double.word s2 ((p2 + 1074).toNat * 4503599627370496 + M2)) = some (double.word (s1 ^^ s2) ((p3 + 1074).toNat * 4503599627370496 + M3)) ∧
      4503599627370496 ≤ M3 ∧ M3 < 9007199254740992 ∧ p1 + p2 + 52 ≤ p3 ∧ p3 ≤ p1 + p2 + 54 ∧ ∀ b : Int, b ≤ p1 + p2 → Ap (M3 * 2 ^ (p3 - b).toNat) (M1 * M2 * 2 ^ (p1 + p2 - b).toNat) := by
  have r1 : double.read (double.word s1 ((p1 + 1074).toNat * 4503599627370496 + M1)) = .number s1 M1 p1 := by
    rw [read_word s1 _ _ a1 b1 (by omega), show -1074 + ((p1 + 1074).toNat : Int) = p1 by omega]
  have r2 : double.read (double.word s2 ((p2 + 1074).toNat * 4503599627370496 + M2)) = .number s2 M2 p2 := by
    rw [read_word s2 _ _ a2 b2 (by omega), show -1074 + ((p2 + 1074).toNat : Int) = p2 by omega]
  unfold Format.mul
  rw [r1, r2]
  simp only [Datum.product, Option.map_some, Format.write]
  have m1 : 20282409603651670423947251286016 ≤ M1 * M2 := by
    have := Nat.mul_le_mul a1 a2
    omega
  have m2 : M1 * M2 < 81129638414606681695789005144064 := by
    have h1 : M1 * M2 ≤ M1 * 9007199254740992 := Nat.mul_le_mul_left M1 (by omega)
    omega
  generalize M1 * M2 = q at m1 m2 ⊢
  have l1 : 104 ≤ q.log2 := by
    rw [Nat.le_log2 (by omega)]
    have : (2 : Nat) ^ 104 = 20282409603651670423947251286016 := by decide
    omega
  have l2 : q.log2 < 106 := by
    rw [Nat.log2_lt (by omega)]
    have : (2 : Nat) ^ 106 = 81129638414606681695789005144064 := by decide
    omega
  obtain ⟨M3, p3, hw, a, b, e, f, ap⟩ := nearest_word (s1 ^^ s2) q (p1 + p2) (by omega) (by omega) (by omega)
  exact ⟨M3, p3, by rw [hw], a, b, by omega, by omega, fun b hb => ap b (by omega) hb⟩

theorem U.cancel {n a q c : Nat} (h : U n (a * c) (q * c)) (hc : 0 < c) : U n a q := by
  unfold U at h ⊢
  rw [Nat.mul_right_comm, Nat.mul_right_comm q] at h
  exact Nat.le_of_mul_le_mul_right h hc

theorem log2_le {a b : Nat} (h0 : 0 < a) (h : a ≤ b) : a.log2 ≤ b.log2 := by
  rw [Nat.le_log2 (by omega)]
  exact Nat.le_trans (Nat.log2_self_le (by omega)) h

/-- d1 / D, between 0 and 1 -/
theorem quo_fl (d1 D : Int) (h : (0 < d1 ∧ d1 < D) ∨ (D < d1 ∧ d1 < 0)) (hD : -4611686018427387904 ≤ D ∧ D ≤ 4611686018427387904) :
    ∃ (M3 : Nat) (p3 : Int), floatBits .quo .f64 (floatOfInt .f64 d1) (floatOfInt .f64 D) = some (double.word false ((p3 + 1074).toNat * 4503599627370496 + M3)) ∧
      4503599627370496 ≤ M3 ∧ M3 < 9007199254740992 ∧ -118 ≤ p3 ∧ p3 ≤ -50 ∧
      U 4 (M3 * 2 ^ (p3 + 200).toNat * D.natAbs) (d1.natAbs * 2 ^ 200) ∧ U 4 (d1.natAbs * 2 ^ 200) (M3 * 2 ^ (p3 + 200).toNat * D.natAbs) := by
  obtain ⟨M1, p1, w1, a1, b1, c1, e1, f1, g1, ap1⟩ := of_int d1 (by omega) (by omega)
  obtain ⟨M2, p2, w2, a2, b2, c2, e2, f2, g2, ap2⟩ := of_int D (by omega) (by omega)
  have hlog := log2_le (a := d1.natAbs) (b := D.natAbs) (by omega) (by omega)
  obtain ⟨q, M3, p3, w3, a3, b3, c3, e3, apS, apQ⟩ := div_fl (decide (d1 < 0)) (decide (D < 0)) M1 M2 p1 p2 a1 b1 a2 b2 c1 e1 c2 e2
  have hs : (decide (d1 < 0) ^^ decide (D < 0)) = false := by
    rcases h with ⟨h1, h2⟩ | ⟨h1, h2⟩
    · have x1 : decide (d1 < 0) = false := by simp; omega
      have x2 : decide (D < 0) = false := by simp; omega
      rw [x1, x2]; rfl
    · have x1 : decide (d1 < 0) = true := by simp; omega
      have x2 : decide (D < 0) = true := by simp; omega
      rw [x1, x2]; rfl
  rw [hs] at w3
  refine ⟨M3, p3, ?_, a3, b3, by omega, by omega, ?_⟩
  · show double.div (floatOfInt .f64 d1) (floatOfInt .f64 D) = _
    rw [w1, w2, w3]
  have hS : Ap (M3 * 2 ^ (p3 + 200).toNat) (q * 2 ^ (p1 - p2 - 55 + 200).toNat) := by
    have := apS.scale (2 ^ (p1 - p2 - 55 + 200).toNat)
    rw [pow_join, show (p3 - (p1 - p2 - 55)).toNat + (p1 - p2 - 55 + 200).toNat = (p3 + 200).toNat by omega] at this
    exact this
  have hQ : Ap (q * 2 ^ (p1 - p2 - 55 + 200).toNat * (M2 * 2 ^ (p2 + 52).toNat)) (M1 * 2 ^ (p1 + 52).toNat * 2 ^ 200) := by
    have := apQ.scale (2 ^ ((p1 - p2 - 55 + 200).toNat + (p2 + 52).toNat))
    rw [pow_join, show 55 + ((p1 - p2 - 55 + 200).toNat + (p2 + 52).toNat) = (p1 + 52).toNat + 200 by omega, ← pow_join M1, Nat.pow_add, ← Nat.mul_assoc, Nat.mul_right_comm q M2, Nat.mul_assoc _ M2] at this
    exact this
  generalize M3 * 2 ^ (p3 + 200).toNat = S at hS ⊢
  generalize q * 2 ^ (p1 - p2 - 55 + 200).toNat = Z at hS hQ
  generalize M2 * 2 ^ (p2 + 52).toNat = Y at ap2 hQ
  generalize M1 * 2 ^ (p1 + 52).toNat = X at ap1 hQ
  have uS := U.of_ap hS
  have uQ := U.of_ap hQ
  have uX := U.of_ap ap1
  have uY := U.of_ap ap2
  constructor
  · refine U.cancel (c := 2 ^ 52) ?_ (Nat.two_pow_pos 52)
    have s1 : U 1 (S * D.natAbs * 2 ^ 52) (S * Y) := by
      have := uY.2.scale S
      rw [Nat.mul_comm _ S, Nat.mul_comm Y S, ← Nat.mul_assoc] at this
      exact this
    have s2 : U 1 (S * Y) (Z * Y) := uS.1.scale Y
    have s3 : U 1 (X * 2 ^ 200) (d1.natAbs * 2 ^ 200 * 2 ^ 52) := by
      have := uX.1.scale (2 ^ 200)
      rw [Nat.mul_right_comm] at this
      exact this
    exact ((s1.trans s2).trans uQ.1).trans s3
  · refine U.cancel (c := 2 ^ 52) ?_ (Nat.two_pow_pos 52)
    have s1 : U 1 (S * Y) (S * D.natAbs * 2 ^ 52) := by
      have := uY.1.scale S
      rw [Nat.mul_comm _ S, Nat.mul_comm _ S, ← Nat.mul_assoc] at this
      exact this
    have s2 : U 1 (Z * Y) (S * Y) := uS.2.scale Y
    have s3 : U 1 (d1.natAbs * 2 ^ 200 * 2 ^ 52) (X * 2 ^ 200) := by
      have := uX.2.scale (2 ^ 200)
      rw [Nat.mul_right_comm] at this
      exact this
    exact ((s3.trans uQ.2).trans s2).trans s1

end Go.Proofs.Qxb6609068a.Fl
