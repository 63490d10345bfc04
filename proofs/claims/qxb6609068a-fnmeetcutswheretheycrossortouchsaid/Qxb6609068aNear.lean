/-
  CONTRACT of near: is 1024 * |off * den - num * d| at most 513 * |den|?
-/
import Derived.Test.Qxb6609068aWide
namespace Go.Proofs.Qxb6609068a.Small
open Go.ChangeShapes Go.WideShapes Go.ChangeAt Go.RowKit
set_option linter.unusedVariables false
set_option linter.unusedSimpArgs false

theorem or_ten {x y : Int} (h : 0 ≤ x ∧ x < 18014398509481984) (k : 0 ≤ y ∧ y < 1024) : bits .or .u64 (x * 1024) y = x * 1024 + y := by
  obtain ⟨n, rfl⟩ : ∃ n : Nat, x = (n : Int) := ⟨x.toNat, by omega⟩
  obtain ⟨m, rfl⟩ : ∃ m : Nat, y = (m : Int) := ⟨y.toNat, by omega⟩
  rw [show (n : Int) * 1024 = ((2 ^ 10 * n : Nat) : Int) by omega, bits_or_u64_nat _ _ (by omega) (by omega)]
  rw [← Nat.two_pow_add_eq_or_of_lt (by omega : m < 2 ^ 10)]
  omega

/-- the sign of a product, told by two bits -/
theorem sign_of (x y : Int) : x * y = if (decide (x < 0) != decide (y < 0)) then -((x.natAbs : Int) * (y.natAbs : Int)) else (x.natAbs : Int) * (y.natAbs : Int) := by
  by_cases hx : x < 0
  · by_cases hy : y < 0
    · rw [show (x.natAbs : Int) = -x by omega, show (y.natAbs : Int) = -y by omega, if_neg (by simp [hx, hy]), Int.neg_mul_neg]
    · rw [show (x.natAbs : Int) = -x by omega, show (y.natAbs : Int) = y by omega, if_pos (by simp [hx, hy]), Int.neg_mul, Int.neg_neg]
  · by_cases hy : y < 0
    · rw [show (x.natAbs : Int) = x by omega, show (y.natAbs : Int) = -y by omega, if_pos (by simp [hx, hy]), Int.mul_neg, Int.neg_neg]
    · rw [show (x.natAbs : Int) = x by omega, show (y.natAbs : Int) = y by omega, if_neg (by simp [hx, hy])]

theorem prod_nn (x y : Int) : 0 ≤ (x.natAbs : Int) * (y.natAbs : Int) := Int.mul_nonneg (by omega) (by omega)

theorem abs_far {x y u v : Int} (h : (decide (x < 0) != decide (y < 0)) = !(decide (u < 0) != decide (v < 0))) : ((x * y - u * v).natAbs : Int) = (x.natAbs : Int) * (y.natAbs : Int) + (u.natAbs : Int) * (v.natAbs : Int) := by
  have p := prod_nn x y
  have q := prod_nn u v
  rw [sign_of x y, sign_of u v, h]
  cases (decide (u < 0) != decide (v < 0))
  · rw [if_pos (by rfl), if_neg (by simp)]; omega
  · rw [if_neg (by simp), if_pos (by rfl)]; omega

theorem abs_near {x y u v : Int} (h : (decide (x < 0) != decide (y < 0)) = (decide (u < 0) != decide (v < 0))) : ((x * y - u * v).natAbs : Int) = (((x.natAbs : Int) * (y.natAbs : Int) - (u.natAbs : Int) * (v.natAbs : Int)).natAbs : Int) := by
  rw [sign_of x y, sign_of u v, h]
  cases (decide (u < 0) != decide (v < 0))
  · rw [if_neg (by simp), if_neg (by simp)]
  · rw [if_pos (by rfl), if_pos (by rfl)]; omega

theorem prod_le {x y : Int} {a b : Int} (h : 0 ≤ x ∧ x ≤ a) (k : 0 ≤ y ∧ y ≤ b) : x * y ≤ a * b :=
  Int.le_trans (Int.mul_le_mul_of_nonneg_right h.2 k.1) (Int.mul_le_mul_of_nonneg_left k.2 (by omega))

theorem near_end {n B : Int} (h : 0 ≤ n ∧ n < 79228162514264337593543950336) (k : 0 ≤ B ∧ B < 9444732965739290427392) :
    (!decide (B / 18446744073709551616 < bits .or .u64 (n / 18446744073709551616 * 1024) (n % 18446744073709551616 / 18014398509481984)) &&
      (!decide (B / 18446744073709551616 = bits .or .u64 (n / 18446744073709551616 * 1024) (n % 18446744073709551616 / 18014398509481984)) || !decide (B % 18446744073709551616 < IntKind.u64.wrap (n % 18446744073709551616 * 1024)))) = decide (1024 * n ≤ B) := by
  rw [or_ten (by omega) (by omega), IntKind.wrap_u64]
  rw [← decide_not, ← decide_not, ← decide_not, ← Bool.decide_or, ← Bool.decide_and]
  apply decide_eq_decide.2
  omega

theorem ret_eq {a b : Bool} (h : a = b) : Ending.returned (.bool a) = .returned (.bool b) := by rw [h]

set_option maxRecDepth 100000 in
set_option maxHeartbeats 8000000 in
theorem near_is (off den num d : Int) (r : Bool) (hr : decide (1024 * ((off * den - num * d).natAbs : Int) ≤ 513 * (den.natAbs : Int)) = r) (w : World) (h0 : -4294967296 ≤ off ∧ off ≤ 4294967296) (h1 : -4611686018427387904 ≤ den ∧ den ≤ 4611686018427387904) (h2 : -4611686018427387904 ≤ num ∧ num ≤ 4611686018427387904) (h3 : -4294967296 ≤ d ∧ d ≤ 4294967296) :
    Calls Try.prog 36 #[.int .i64 off, .int .i64 den, .int .i64 num, .int .i64 d] w fun e w' => e = .returned (.bool r) ∧ w' = w := by
  subst hr
  have p0 := prod_nn off den
  have q0 := prod_nn num d
  have p1 : (off.natAbs : Int) * (den.natAbs : Int) ≤ 19807040628566084398385987584 := prod_le (a := 4294967296) (b := 4611686018427387904) (by omega) (by omega)
  have q1 : (num.natAbs : Int) * (d.natAbs : Int) ≤ 19807040628566084398385987584 := prod_le (a := 4611686018427387904) (b := 4294967296) (by omega) (by omega)
  by_cases s0 : off < 0
  · by_cases s1 : den < 0
    · by_cases s2 : num < 0
      · by_cases s3 : d < 0
        · have HS : Hid ((decide (off < 0) != decide (den < 0)) = (decide (num < 0) != decide (d < 0))) := by show _ = _; simp [s0, s1, s2, s3]
          go_enter Try.func36, Try.ntmps36
          go_wp2_with (first
            | (go_at_call 44; refine (absU_is _ _ (by omega)).mono ?_; rintro e w' ⟨rfl, hw⟩; subst w')
            | (go_at_call 43; refine (mulU_is _ _ _ (by omega) (by omega)).mono ?_; rintro e w' ⟨rfl, hw⟩; subst w')
            | (go_at_call 45; refine (add128_is _ _ _ _ _ (by omega) (by omega) (by omega) (by omega)).mono ?_; rintro e w' ⟨rfl, hw⟩; subst w')
            | (go_at_call 47; refine (sub128_is _ _ _ _ _ (by omega) (by omega) (by omega) (by omega) (by omega)).mono ?_; rintro e w' ⟨rfl, hw⟩; subst w')
            | (go_at_call 46; refine (less_is _ _ _ _ _ rfl _).mono ?_; rintro e w' ⟨rfl, hw⟩; subst w'))
          all_goals
            go_ret
            refine ⟨ret_eq ((near_end (by omega) (by omega)).trans ?_), rfl⟩
            apply decide_eq_decide.2
            rw [abs_near HS.out]
            generalize ((off.natAbs : Int) * (den.natAbs : Int)) = P at *
            generalize ((num.natAbs : Int) * (d.natAbs : Int)) = Q at *
            first | omega | (exfalso; clear HS; have a0 : decide (off < 0) = true := decide_eq_true (by omega); have a1 : decide (den < 0) = true := decide_eq_true (by omega); have a2 : decide (num < 0) = true := decide_eq_true (by omega); have a3 : decide (d < 0) = true := decide_eq_true (by omega); simp [a0, a1, a2, a3] at * <;> omega)
        · have HS : Hid ((decide (off < 0) != decide (den < 0)) = !(decide (num < 0) != decide (d < 0))) := by show _ = _; simp [s0, s1, s2, s3]
          go_enter Try.func36, Try.ntmps36
          go_wp2_with (first
            | (go_at_call 44; refine (absU_is _ _ (by omega)).mono ?_; rintro e w' ⟨rfl, hw⟩; subst w')
            | (go_at_call 43; refine (mulU_is _ _ _ (by omega) (by omega)).mono ?_; rintro e w' ⟨rfl, hw⟩; subst w')
            | (go_at_call 45; refine (add128_is _ _ _ _ _ (by omega) (by omega) (by omega) (by omega)).mono ?_; rintro e w' ⟨rfl, hw⟩; subst w')
            | (go_at_call 47; refine (sub128_is _ _ _ _ _ (by omega) (by omega) (by omega) (by omega) (by omega)).mono ?_; rintro e w' ⟨rfl, hw⟩; subst w')
            | (go_at_call 46; refine (less_is _ _ _ _ _ rfl _).mono ?_; rintro e w' ⟨rfl, hw⟩; subst w'))
          all_goals
            go_ret
            refine ⟨ret_eq ((near_end (by omega) (by omega)).trans ?_), rfl⟩
            apply decide_eq_decide.2
            rw [abs_far HS.out]
            generalize ((off.natAbs : Int) * (den.natAbs : Int)) = P at *
            generalize ((num.natAbs : Int) * (d.natAbs : Int)) = Q at *
            first | omega | (exfalso; clear HS; have a0 : decide (off < 0) = true := decide_eq_true (by omega); have a1 : decide (den < 0) = true := decide_eq_true (by omega); have a2 : decide (num < 0) = true := decide_eq_true (by omega); have a3 : decide (d < 0) = false := decide_eq_false (by omega); simp [a0, a1, a2, a3] at * <;> omega)
      · by_cases s3 : d < 0
        · have HS : Hid ((decide (off < 0) != decide (den < 0)) = !(decide (num < 0) != decide (d < 0))) := by show _ = _; simp [s0, s1, s2, s3]
          go_enter Try.func36, Try.ntmps36
          go_wp2_with (first
            | (go_at_call 44; refine (absU_is _ _ (by omega)).mono ?_; rintro e w' ⟨rfl, hw⟩; subst w')
            | (go_at_call 43; refine (mulU_is _ _ _ (by omega) (by omega)).mono ?_; rintro e w' ⟨rfl, hw⟩; subst w')
            | (go_at_call 45; refine (add128_is _ _ _ _ _ (by omega) (by omega) (by omega) (by omega)).mono ?_; rintro e w' ⟨rfl, hw⟩; subst w')
            | (go_at_call 47; refine (sub128_is _ _ _ _ _ (by omega) (by omega) (by omega) (by omega) (by omega)).mono ?_; rintro e w' ⟨rfl, hw⟩; subst w')
            | (go_at_call 46; refine (less_is _ _ _ _ _ rfl _).mono ?_; rintro e w' ⟨rfl, hw⟩; subst w'))
          all_goals
            go_ret
            refine ⟨ret_eq ((near_end (by omega) (by omega)).trans ?_), rfl⟩
            apply decide_eq_decide.2
            rw [abs_far HS.out]
            generalize ((off.natAbs : Int) * (den.natAbs : Int)) = P at *
            generalize ((num.natAbs : Int) * (d.natAbs : Int)) = Q at *
            first | omega | (exfalso; clear HS; have a0 : decide (off < 0) = true := decide_eq_true (by omega); have a1 : decide (den < 0) = true := decide_eq_true (by omega); have a2 : decide (num < 0) = false := decide_eq_false (by omega); have a3 : decide (d < 0) = true := decide_eq_true (by omega); simp [a0, a1, a2, a3] at * <;> omega)
        · have HS : Hid ((decide (off < 0) != decide (den < 0)) = (decide (num < 0) != decide (d < 0))) := by show _ = _; simp [s0, s1, s2, s3]
          go_enter Try.func36, Try.ntmps36
          go_wp2_with (first
            | (go_at_call 44; refine (absU_is _ _ (by omega)).mono ?_; rintro e w' ⟨rfl, hw⟩; subst w')
            | (go_at_call 43; refine (mulU_is _ _ _ (by omega) (by omega)).mono ?_; rintro e w' ⟨rfl, hw⟩; subst w')
            | (go_at_call 45; refine (add128_is _ _ _ _ _ (by omega) (by omega) (by omega) (by omega)).mono ?_; rintro e w' ⟨rfl, hw⟩; subst w')
            | (go_at_call 47; refine (sub128_is _ _ _ _ _ (by omega) (by omega) (by omega) (by omega) (by omega)).mono ?_; rintro e w' ⟨rfl, hw⟩; subst w')
            | (go_at_call 46; refine (less_is _ _ _ _ _ rfl _).mono ?_; rintro e w' ⟨rfl, hw⟩; subst w'))
          all_goals
            go_ret
            refine ⟨ret_eq ((near_end (by omega) (by omega)).trans ?_), rfl⟩
            apply decide_eq_decide.2
            rw [abs_near HS.out]
            generalize ((off.natAbs : Int) * (den.natAbs : Int)) = P at *
            generalize ((num.natAbs : Int) * (d.natAbs : Int)) = Q at *
            first | omega | (exfalso; clear HS; have a0 : decide (off < 0) = true := decide_eq_true (by omega); have a1 : decide (den < 0) = true := decide_eq_true (by omega); have a2 : decide (num < 0) = false := decide_eq_false (by omega); have a3 : decide (d < 0) = false := decide_eq_false (by omega); simp [a0, a1, a2, a3] at * <;> omega)
    · by_cases s2 : num < 0
      · by_cases s3 : d < 0
        · have HS : Hid ((decide (off < 0) != decide (den < 0)) = !(decide (num < 0) != decide (d < 0))) := by show _ = _; simp [s0, s1, s2, s3]
          go_enter Try.func36, Try.ntmps36
          go_wp2_with (first
            | (go_at_call 44; refine (absU_is _ _ (by omega)).mono ?_; rintro e w' ⟨rfl, hw⟩; subst w')
            | (go_at_call 43; refine (mulU_is _ _ _ (by omega) (by omega)).mono ?_; rintro e w' ⟨rfl, hw⟩; subst w')
            | (go_at_call 45; refine (add128_is _ _ _ _ _ (by omega) (by omega) (by omega) (by omega)).mono ?_; rintro e w' ⟨rfl, hw⟩; subst w')
            | (go_at_call 47; refine (sub128_is _ _ _ _ _ (by omega) (by omega) (by omega) (by omega) (by omega)).mono ?_; rintro e w' ⟨rfl, hw⟩; subst w')
            | (go_at_call 46; refine (less_is _ _ _ _ _ rfl _).mono ?_; rintro e w' ⟨rfl, hw⟩; subst w'))
          all_goals
            go_ret
            refine ⟨ret_eq ((near_end (by omega) (by omega)).trans ?_), rfl⟩
            apply decide_eq_decide.2
            rw [abs_far HS.out]
            generalize ((off.natAbs : Int) * (den.natAbs : Int)) = P at *
            generalize ((num.natAbs : Int) * (d.natAbs : Int)) = Q at *
            first | omega | (exfalso; clear HS; have a0 : decide (off < 0) = true := decide_eq_true (by omega); have a1 : decide (den < 0) = false := decide_eq_false (by omega); have a2 : decide (num < 0) = true := decide_eq_true (by omega); have a3 : decide (d < 0) = true := decide_eq_true (by omega); simp [a0, a1, a2, a3] at * <;> omega)
        · have HS : Hid ((decide (off < 0) != decide (den < 0)) = (decide (num < 0) != decide (d < 0))) := by show _ = _; simp [s0, s1, s2, s3]
          go_enter Try.func36, Try.ntmps36
          go_wp2_with (first
            | (go_at_call 44; refine (absU_is _ _ (by omega)).mono ?_; rintro e w' ⟨rfl, hw⟩; subst w')
            | (go_at_call 43; refine (mulU_is _ _ _ (by omega) (by omega)).mono ?_; rintro e w' ⟨rfl, hw⟩; subst w')
            | (go_at_call 45; refine (add128_is _ _ _ _ _ (by omega) (by omega) (by omega) (by omega)).mono ?_; rintro e w' ⟨rfl, hw⟩; subst w')
            | (go_at_call 47; refine (sub128_is _ _ _ _ _ (by omega) (by omega) (by omega) (by omega) (by omega)).mono ?_; rintro e w' ⟨rfl, hw⟩; subst w')
            | (go_at_call 46; refine (less_is _ _ _ _ _ rfl _).mono ?_; rintro e w' ⟨rfl, hw⟩; subst w'))
          all_goals
            go_ret
            refine ⟨ret_eq ((near_end (by omega) (by omega)).trans ?_), rfl⟩
            apply decide_eq_decide.2
            rw [abs_near HS.out]
            generalize ((off.natAbs : Int) * (den.natAbs : Int)) = P at *
            generalize ((num.natAbs : Int) * (d.natAbs : Int)) = Q at *
            first | omega | (exfalso; clear HS; have a0 : decide (off < 0) = true := decide_eq_true (by omega); have a1 : decide (den < 0) = false := decide_eq_false (by omega); have a2 : decide (num < 0) = true := decide_eq_true (by omega); have a3 : decide (d < 0) = false := decide_eq_false (by omega); simp [a0, a1, a2, a3] at * <;> omega)
      · by_cases s3 : d < 0
        · have HS : Hid ((decide (off < 0) != decide (den < 0)) = (decide (num < 0) != decide (d < 0))) := by show _ = _; simp [s0, s1, s2, s3]
          go_enter Try.func36, Try.ntmps36
          go_wp2_with (first
            | (go_at_call 44; refine (absU_is _ _ (by omega)).mono ?_; rintro e w' ⟨rfl, hw⟩; subst w')
            | (go_at_call 43; refine (mulU_is _ _ _ (by omega) (by omega)).mono ?_; rintro e w' ⟨rfl, hw⟩; subst w')
            | (go_at_call 45; refine (add128_is _ _ _ _ _ (by omega) (by omega) (by omega) (by omega)).mono ?_; rintro e w' ⟨rfl, hw⟩; subst w')
            | (go_at_call 47; refine (sub128_is _ _ _ _ _ (by omega) (by omega) (by omega) (by omega) (by omega)).mono ?_; rintro e w' ⟨rfl, hw⟩; subst w')
            | (go_at_call 46; refine (less_is _ _ _ _ _ rfl _).mono ?_; rintro e w' ⟨rfl, hw⟩; subst w'))
          all_goals
            go_ret
            refine ⟨ret_eq ((near_end (by omega) (by omega)).trans ?_), rfl⟩
            apply decide_eq_decide.2
            rw [abs_near HS.out]
            generalize ((off.natAbs : Int) * (den.natAbs : Int)) = P at *
            generalize ((num.natAbs : Int) * (d.natAbs : Int)) = Q at *
            first | omega | (exfalso; clear HS; have a0 : decide (off < 0) = true := decide_eq_true (by omega); have a1 : decide (den < 0) = false := decide_eq_false (by omega); have a2 : decide (num < 0) = false := decide_eq_false (by omega); have a3 : decide (d < 0) = true := decide_eq_true (by omega); simp [a0, a1, a2, a3] at * <;> omega)
        · have HS : Hid ((decide (off < 0) != decide (den < 0)) = !(decide (num < 0) != decide (d < 0))) := by show _ = _; simp [s0, s1, s2, s3]
          go_enter Try.func36, Try.ntmps36
          go_wp2_with (first
            | (go_at_call 44; refine (absU_is _ _ (by omega)).mono ?_; rintro e w' ⟨rfl, hw⟩; subst w')
            | (go_at_call 43; refine (mulU_is _ _ _ (by omega) (by omega)).mono ?_; rintro e w' ⟨rfl, hw⟩; subst w')
            | (go_at_call 45; refine (add128_is _ _ _ _ _ (by omega) (by omega) (by omega) (by omega)).mono ?_; rintro e w' ⟨rfl, hw⟩; subst w')
            | (go_at_call 47; refine (sub128_is _ _ _ _ _ (by omega) (by omega) (by omega) (by omega) (by omega)).mono ?_; rintro e w' ⟨rfl, hw⟩; subst w')
            | (go_at_call 46; refine (less_is _ _ _ _ _ rfl _).mono ?_; rintro e w' ⟨rfl, hw⟩; subst w'))
          all_goals
            go_ret
            refine ⟨ret_eq ((near_end (by omega) (by omega)).trans ?_), rfl⟩
            apply decide_eq_decide.2
            rw [abs_far HS.out]
            generalize ((off.natAbs : Int) * (den.natAbs : Int)) = P at *
            generalize ((num.natAbs : Int) * (d.natAbs : Int)) = Q at *
            first | omega | (exfalso; clear HS; have a0 : decide (off < 0) = true := decide_eq_true (by omega); have a1 : decide (den < 0) = false := decide_eq_false (by omega); have a2 : decide (num < 0) = false := decide_eq_false (by omega); have a3 : decide (d < 0) = false := decide_eq_false (by omega); simp [a0, a1, a2, a3] at * <;> omega)
  · by_cases s1 : den < 0
    · by_cases s2 : num < 0
      · by_cases s3 : d < 0
        · have HS : Hid ((decide (off < 0) != decide (den < 0)) = !(decide (num < 0) != decide (d < 0))) := by show _ = _; simp [s0, s1, s2, s3]
          go_enter Try.func36, Try.ntmps36
          go_wp2_with (first
            | (go_at_call 44; refine (absU_is _ _ (by omega)).mono ?_; rintro e w' ⟨rfl, hw⟩; subst w')
            | (go_at_call 43; refine (mulU_is _ _ _ (by omega) (by omega)).mono ?_; rintro e w' ⟨rfl, hw⟩; subst w')
            | (go_at_call 45; refine (add128_is _ _ _ _ _ (by omega) (by omega) (by omega) (by omega)).mono ?_; rintro e w' ⟨rfl, hw⟩; subst w')
            | (go_at_call 47; refine (sub128_is _ _ _ _ _ (by omega) (by omega) (by omega) (by omega) (by omega)).mono ?_; rintro e w' ⟨rfl, hw⟩; subst w')
            | (go_at_call 46; refine (less_is _ _ _ _ _ rfl _).mono ?_; rintro e w' ⟨rfl, hw⟩; subst w'))
          all_goals
            go_ret
            refine ⟨ret_eq ((near_end (by omega) (by omega)).trans ?_), rfl⟩
            apply decide_eq_decide.2
            rw [abs_far HS.out]
            generalize ((off.natAbs : Int) * (den.natAbs : Int)) = P at *
            generalize ((num.natAbs : Int) * (d.natAbs : Int)) = Q at *
            first | omega | (exfalso; clear HS; have a0 : decide (off < 0) = false := decide_eq_false (by omega); have a1 : decide (den < 0) = true := decide_eq_true (by omega); have a2 : decide (num < 0) = true := decide_eq_true (by omega); have a3 : decide (d < 0) = true := decide_eq_true (by omega); simp [a0, a1, a2, a3] at * <;> omega)
        · have HS : Hid ((decide (off < 0) != decide (den < 0)) = (decide (num < 0) != decide (d < 0))) := by show _ = _; simp [s0, s1, s2, s3]
          go_enter Try.func36, Try.ntmps36
          go_wp2_with (first
            | (go_at_call 44; refine (absU_is _ _ (by omega)).mono ?_; rintro e w' ⟨rfl, hw⟩; subst w')
            | (go_at_call 43; refine (mulU_is _ _ _ (by omega) (by omega)).mono ?_; rintro e w' ⟨rfl, hw⟩; subst w')
            | (go_at_call 45; refine (add128_is _ _ _ _ _ (by omega) (by omega) (by omega) (by omega)).mono ?_; rintro e w' ⟨rfl, hw⟩; subst w')
            | (go_at_call 47; refine (sub128_is _ _ _ _ _ (by omega) (by omega) (by omega) (by omega) (by omega)).mono ?_; rintro e w' ⟨rfl, hw⟩; subst w')
            | (go_at_call 46; refine (less_is _ _ _ _ _ rfl _).mono ?_; rintro e w' ⟨rfl, hw⟩; subst w'))
          all_goals
            go_ret
            refine ⟨ret_eq ((near_end (by omega) (by omega)).trans ?_), rfl⟩
            apply decide_eq_decide.2
            rw [abs_near HS.out]
            generalize ((off.natAbs : Int) * (den.natAbs : Int)) = P at *
            generalize ((num.natAbs : Int) * (d.natAbs : Int)) = Q at *
            first | omega | (exfalso; clear HS; have a0 : decide (off < 0) = false := decide_eq_false (by omega); have a1 : decide (den < 0) = true := decide_eq_true (by omega); have a2 : decide (num < 0) = true := decide_eq_true (by omega); have a3 : decide (d < 0) = false := decide_eq_false (by omega); simp [a0, a1, a2, a3] at * <;> omega)
      · by_cases s3 : d < 0
        · have HS : Hid ((decide (off < 0) != decide (den < 0)) = (decide (num < 0) != decide (d < 0))) := by show _ = _; simp [s0, s1, s2, s3]
          go_enter Try.func36, Try.ntmps36
          go_wp2_with (first
            | (go_at_call 44; refine (absU_is _ _ (by omega)).mono ?_; rintro e w' ⟨rfl, hw⟩; subst w')
            | (go_at_call 43; refine (mulU_is _ _ _ (by omega) (by omega)).mono ?_; rintro e w' ⟨rfl, hw⟩; subst w')
            | (go_at_call 45; refine (add128_is _ _ _ _ _ (by omega) (by omega) (by omega) (by omega)).mono ?_; rintro e w' ⟨rfl, hw⟩; subst w')
            | (go_at_call 47; refine (sub128_is _ _ _ _ _ (by omega) (by omega) (by omega) (by omega) (by omega)).mono ?_; rintro e w' ⟨rfl, hw⟩; subst w')
            | (go_at_call 46; refine (less_is _ _ _ _ _ rfl _).mono ?_; rintro e w' ⟨rfl, hw⟩; subst w'))
          all_goals
            go_ret
            refine ⟨ret_eq ((near_end (by omega) (by omega)).trans ?_), rfl⟩
            apply decide_eq_decide.2
            rw [abs_near HS.out]
            generalize ((off.natAbs : Int) * (den.natAbs : Int)) = P at *
            generalize ((num.natAbs : Int) * (d.natAbs : Int)) = Q at *
            first | omega | (exfalso; clear HS; have a0 : decide (off < 0) = false := decide_eq_false (by omega); have a1 : decide (den < 0) = true := decide_eq_true (by omega); have a2 : decide (num < 0) = false := decide_eq_false (by omega); have a3 : decide (d < 0) = true := decide_eq_true (by omega); simp [a0, a1, a2, a3] at * <;> omega)
        · have HS : Hid ((decide (off < 0) != decide (den < 0)) = !(decide (num < 0) != decide (d < 0))) := by show _ = _; simp [s0, s1, s2, s3]
          go_enter Try.func36, Try.ntmps36
          go_wp2_with (first
            | (go_at_call 44; refine (absU_is _ _ (by omega)).mono ?_; rintro e w' ⟨rfl, hw⟩; subst w')
            | (go_at_call 43; refine (mulU_is _ _ _ (by omega) (by omega)).mono ?_; rintro e w' ⟨rfl, hw⟩; subst w')
            | (go_at_call 45; refine (add128_is _ _ _ _ _ (by omega) (by omega) (by omega) (by omega)).mono ?_; rintro e w' ⟨rfl, hw⟩; subst w')
            | (go_at_call 47; refine (sub128_is _ _ _ _ _ (by omega) (by omega) (by omega) (by omega) (by omega)).mono ?_; rintro e w' ⟨rfl, hw⟩; subst w')
            | (go_at_call 46; refine (less_is _ _ _ _ _ rfl _).mono ?_; rintro e w' ⟨rfl, hw⟩; subst w'))
          all_goals
            go_ret
            refine ⟨ret_eq ((near_end (by omega) (by omega)).trans ?_), rfl⟩
            apply decide_eq_decide.2
            rw [abs_far HS.out]
            generalize ((off.natAbs : Int) * (den.natAbs : Int)) = P at *
            generalize ((num.natAbs : Int) * (d.natAbs : Int)) = Q at *
            first | omega | (exfalso; clear HS; have a0 : decide (off < 0) = false := decide_eq_false (by omega); have a1 : decide (den < 0) = true := decide_eq_true (by omega); have a2 : decide (num < 0) = false := decide_eq_false (by omega); have a3 : decide (d < 0) = false := decide_eq_false (by omega); simp [a0, a1, a2, a3] at * <;> omega)
    · by_cases s2 : num < 0
      · by_cases s3 : d < 0
        · have HS : Hid ((decide (off < 0) != decide (den < 0)) = (decide (num < 0) != decide (d < 0))) := by show _ = _; simp [s0, s1, s2, s3]
          go_enter Try.func36, Try.ntmps36
          go_wp2_with (first
            | (go_at_call 44; refine (absU_is _ _ (by omega)).mono ?_; rintro e w' ⟨rfl, hw⟩; subst w')
            | (go_at_call 43; refine (mulU_is _ _ _ (by omega) (by omega)).mono ?_; rintro e w' ⟨rfl, hw⟩; subst w')
            | (go_at_call 45; refine (add128_is _ _ _ _ _ (by omega) (by omega) (by omega) (by omega)).mono ?_; rintro e w' ⟨rfl, hw⟩; subst w')
            | (go_at_call 47; refine (sub128_is _ _ _ _ _ (by omega) (by omega) (by omega) (by omega) (by omega)).mono ?_; rintro e w' ⟨rfl, hw⟩; subst w')
            | (go_at_call 46; refine (less_is _ _ _ _ _ rfl _).mono ?_; rintro e w' ⟨rfl, hw⟩; subst w'))
          all_goals
            go_ret
            refine ⟨ret_eq ((near_end (by omega) (by omega)).trans ?_), rfl⟩
            apply decide_eq_decide.2
            rw [abs_near HS.out]
            generalize ((off.natAbs : Int) * (den.natAbs : Int)) = P at *
            generalize ((num.natAbs : Int) * (d.natAbs : Int)) = Q at *
            first | omega | (exfalso; clear HS; have a0 : decide (off < 0) = false := decide_eq_false (by omega); have a1 : decide (den < 0) = false := decide_eq_false (by omega); have a2 : decide (num < 0) = true := decide_eq_true (by omega); have a3 : decide (d < 0) = true := decide_eq_true (by omega); simp [a0, a1, a2, a3] at * <;> omega)
        · have HS : Hid ((decide (off < 0) != decide (den < 0)) = !(decide (num < 0) != decide (d < 0))) := by show _ = _; simp [s0, s1, s2, s3]
          go_enter Try.func36, Try.ntmps36
          go_wp2_with (first
            | (go_at_call 44; refine (absU_is _ _ (by omega)).mono ?_; rintro e w' ⟨rfl, hw⟩; subst w')
            | (go_at_call 43; refine (mulU_is _ _ _ (by omega) (by omega)).mono ?_; rintro e w' ⟨rfl, hw⟩; subst w')
            | (go_at_call 45; refine (add128_is _ _ _ _ _ (by omega) (by omega) (by omega) (by omega)).mono ?_; rintro e w' ⟨rfl, hw⟩; subst w')
            | (go_at_call 47; refine (sub128_is _ _ _ _ _ (by omega) (by omega) (by omega) (by omega) (by omega)).mono ?_; rintro e w' ⟨rfl, hw⟩; subst w')
            | (go_at_call 46; refine (less_is _ _ _ _ _ rfl _).mono ?_; rintro e w' ⟨rfl, hw⟩; subst w'))
          all_goals
            go_ret
            refine ⟨ret_eq ((near_end (by omega) (by omega)).trans ?_), rfl⟩
            apply decide_eq_decide.2
            rw [abs_far HS.out]
            generalize ((off.natAbs : Int) * (den.natAbs : Int)) = P at *
            generalize ((num.natAbs : Int) * (d.natAbs : Int)) = Q at *
            first | omega | (exfalso; clear HS; have a0 : decide (off < 0) = false := decide_eq_false (by omega); have a1 : decide (den < 0) = false := decide_eq_false (by omega); have a2 : decide (num < 0) = true := decide_eq_true (by omega); have a3 : decide (d < 0) = false := decide_eq_false (by omega); simp [a0, a1, a2, a3] at * <;> omega)
      · by_cases s3 : d < 0
        · have HS : Hid ((decide (off < 0) != decide (den < 0)) = !(decide (num < 0) != decide (d < 0))) := by show _ = _; simp [s0, s1, s2, s3]
          go_enter Try.func36, Try.ntmps36
          go_wp2_with (first
            | (go_at_call 44; refine (absU_is _ _ (by omega)).mono ?_; rintro e w' ⟨rfl, hw⟩; subst w')
            | (go_at_call 43; refine (mulU_is _ _ _ (by omega) (by omega)).mono ?_; rintro e w' ⟨rfl, hw⟩; subst w')
            | (go_at_call 45; refine (add128_is _ _ _ _ _ (by omega) (by omega) (by omega) (by omega)).mono ?_; rintro e w' ⟨rfl, hw⟩; subst w')
            | (go_at_call 47; refine (sub128_is _ _ _ _ _ (by omega) (by omega) (by omega) (by omega) (by omega)).mono ?_; rintro e w' ⟨rfl, hw⟩; subst w')
            | (go_at_call 46; refine (less_is _ _ _ _ _ rfl _).mono ?_; rintro e w' ⟨rfl, hw⟩; subst w'))
          all_goals
            go_ret
            refine ⟨ret_eq ((near_end (by omega) (by omega)).trans ?_), rfl⟩
            apply decide_eq_decide.2
            rw [abs_far HS.out]
            generalize ((off.natAbs : Int) * (den.natAbs : Int)) = P at *
            generalize ((num.natAbs : Int) * (d.natAbs : Int)) = Q at *
            first | omega | (exfalso; clear HS; have a0 : decide (off < 0) = false := decide_eq_false (by omega); have a1 : decide (den < 0) = false := decide_eq_false (by omega); have a2 : decide (num < 0) = false := decide_eq_false (by omega); have a3 : decide (d < 0) = true := decide_eq_true (by omega); simp [a0, a1, a2, a3] at * <;> omega)
        · have HS : Hid ((decide (off < 0) != decide (den < 0)) = (decide (num < 0) != decide (d < 0))) := by show _ = _; simp [s0, s1, s2, s3]
          go_enter Try.func36, Try.ntmps36
          go_wp2_with (first
            | (go_at_call 44; refine (absU_is _ _ (by omega)).mono ?_; rintro e w' ⟨rfl, hw⟩; subst w')
            | (go_at_call 43; refine (mulU_is _ _ _ (by omega) (by omega)).mono ?_; rintro e w' ⟨rfl, hw⟩; subst w')
            | (go_at_call 45; refine (add128_is _ _ _ _ _ (by omega) (by omega) (by omega) (by omega)).mono ?_; rintro e w' ⟨rfl, hw⟩; subst w')
            | (go_at_call 47; refine (sub128_is _ _ _ _ _ (by omega) (by omega) (by omega) (by omega) (by omega)).mono ?_; rintro e w' ⟨rfl, hw⟩; subst w')
            | (go_at_call 46; refine (less_is _ _ _ _ _ rfl _).mono ?_; rintro e w' ⟨rfl, hw⟩; subst w'))
          all_goals
            go_ret
            refine ⟨ret_eq ((near_end (by omega) (by omega)).trans ?_), rfl⟩
            apply decide_eq_decide.2
            rw [abs_near HS.out]
            generalize ((off.natAbs : Int) * (den.natAbs : Int)) = P at *
            generalize ((num.natAbs : Int) * (d.natAbs : Int)) = Q at *
            first | omega | (exfalso; clear HS; have a0 : decide (off < 0) = false := decide_eq_false (by omega); have a1 : decide (den < 0) = false := decide_eq_false (by omega); have a2 : decide (num < 0) = false := decide_eq_false (by omega); have a3 : decide (d < 0) = false := decide_eq_false (by omega); simp [a0, a1, a2, a3] at * <;> omega)

end Go.Proofs.Qxb6609068a.Small
