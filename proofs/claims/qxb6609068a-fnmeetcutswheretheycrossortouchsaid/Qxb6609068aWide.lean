/-
  CONTRACTS of the checker's 128-bit part: absU, mulU, add128, sub128, less128, near.
-/
import Derived.Test.Qxb6609068aCount
namespace Go.Proofs.Qxb6609068a.Small
open Go.ChangeShapes Go.WideShapes Go.ChangeAt Go.RowKit
set_option linter.unusedVariables false

theorem absU_is (x : Int) (w : World) (h : -9223372036854775807 ≤ x ∧ x ≤ 9223372036854775807) :
    Calls Try.prog 44 #[.int .i64 x] w fun e w' => e = .returned (.int .u64 (x.natAbs : Int)) ∧ w' = w := by
  by_cases hx : x < 0
  · go_enter Try.func44, Try.ntmps44
    go_wp2
    go_ret
    exact ⟨ret_int (by omega), rfl⟩
  · go_enter Try.func44, Try.ntmps44
    go_wp2
    go_ret
    exact ⟨ret_int (by omega), rfl⟩

theorem less_is (a b c d : Int) (r : Bool) (hr : decide (a < c ∨ (a = c ∧ b < d)) = r) (w : World) :
    Calls Try.prog 46 #[.int .u64 a, .int .u64 b, .int .u64 c, .int .u64 d] w fun e w' => e = .returned (.bool r) ∧ w' = w := by
  subst hr
  by_cases hx : a < c
  · go_enter Try.func46, Try.ntmps46
    go_wp2
    go_ret
    exact ⟨ret_bool (by simp [hx]), rfl⟩
  by_cases hy : a = c
  · subst hy
    go_enter Try.func46, Try.ntmps46
    go_wp2
    go_ret
    exact ⟨ret_bool (by simp), rfl⟩
  · have hz : (a == c) = false := by simp [hy]
    go_enter Try.func46, Try.ntmps46
    go_wp2
    go_ret
    exact ⟨ret_bool (by simp [hx]), rfl⟩

theorem ret_two {x x' y y' : Int} (h2 : x = x') (h3 : y = y') : Ending.returned (.tuple #[.int .u64 x, .int .u64 y]) = .returned (.tuple #[.int .u64 x', .int .u64 y']) := by rw [h2, h3]

/-- a number of 128 bits in two limbs -/
abbrev two (n : Int) : Ending := .returned (.tuple #[.int .u64 (n / 18446744073709551616), .int .u64 (n % 18446744073709551616)])

set_option maxRecDepth 100000 in
theorem add128_is (a b c d : Int) (w : World) (h0 : 0 ≤ a ∧ a < 4611686018427387904) (h1 : 0 ≤ b ∧ b < 18446744073709551616) (h2 : 0 ≤ c ∧ c < 4611686018427387904) (h3 : 0 ≤ d ∧ d < 18446744073709551616) :
    Calls Try.prog 45 #[.int .u64 a, .int .u64 b, .int .u64 c, .int .u64 d] w fun e w' => e = two ((a * 18446744073709551616 + b) + (c * 18446744073709551616 + d)) ∧ w' = w := by
  by_cases hx : b + d < 18446744073709551616
  · go_enter Try.func45, Try.ntmps45
    go_wp2
    go_ret2
    exact ⟨ret_two (by omega) (by omega), rfl⟩
  · have hw : IntKind.u64.wrap (b + d) = b + d - 18446744073709551616 := by rw [IntKind.wrap_u64]; omega
    go_enter Try.func45, Try.ntmps45
    go_wp2
    go_ret2
    exact ⟨ret_two (by omega) (by omega), rfl⟩

set_option maxRecDepth 100000 in
theorem sub128_is (a b c d : Int) (w : World) (h0 : 0 ≤ a ∧ a < 4611686018427387904) (h1 : 0 ≤ b ∧ b < 18446744073709551616) (h2 : 0 ≤ c ∧ c < 4611686018427387904) (h3 : 0 ≤ d ∧ d < 18446744073709551616) (h : c * 18446744073709551616 + d ≤ a * 18446744073709551616 + b) :
    Calls Try.prog 47 #[.int .u64 a, .int .u64 b, .int .u64 c, .int .u64 d] w fun e w' => e = two ((a * 18446744073709551616 + b) - (c * 18446744073709551616 + d)) ∧ w' = w := by
  by_cases hx : d ≤ b
  · go_enter Try.func47, Try.ntmps47
    go_wp2
    go_ret2
    exact ⟨ret_two (by omega) (by omega), rfl⟩
  · have hw : IntKind.u64.wrap (b - d) = b - d + 18446744073709551616 := by rw [IntKind.wrap_u64]; omega
    go_enter Try.func47, Try.ntmps47
    go_wp2
    go_ret2
    exact ⟨ret_two (by omega) (by omega), rfl⟩

theorem and_lo {x : Int} (h : 0 ≤ x ∧ x < 18446744073709551616) : bits .and .u64 x 4294967295 = x % 4294967296 := by
  obtain ⟨n, rfl⟩ : ∃ n : Nat, x = (n : Int) := ⟨x.toNat, by omega⟩
  rw [show (4294967295 : Int) = ((4294967295 : Nat) : Int) by rfl, bits_and_u64_nat _ _ (by omega) (by omega)]
  rw [show (4294967295 : Nat) = 2 ^ 32 - 1 by rfl, Nat.and_two_pow_sub_one_eq_mod]
  rfl

theorem or_hi {x y : Int} (h : 0 ≤ x ∧ x < 4294967296) (k : 0 ≤ y ∧ y < 4294967296) : bits .or .u64 x (y * 4294967296) = x + y * 4294967296 := by
  obtain ⟨n, rfl⟩ : ∃ n : Nat, x = (n : Int) := ⟨x.toNat, by omega⟩
  obtain ⟨m, rfl⟩ : ∃ m : Nat, y = (m : Int) := ⟨y.toNat, by omega⟩
  rw [show (m : Int) * 4294967296 = ((2 ^ 32 * m : Nat) : Int) by omega, bits_or_u64_nat _ _ (by omega) (by omega)]
  rw [Nat.or_comm, ← Nat.two_pow_add_eq_or_of_lt (by omega : n < 2 ^ 32)]
  omega

theorem mul_parts (a b : Int) : a * b = 18446744073709551616 * ((a / 4294967296) * (b / 4294967296)) + 4294967296 * ((a % 4294967296) * (b / 4294967296)) + 4294967296 * ((a / 4294967296) * (b % 4294967296)) + (a % 4294967296) * (b % 4294967296) := by
  have ha : a = a % 4294967296 + 4294967296 * (a / 4294967296) := by omega
  have hb : b = b % 4294967296 + 4294967296 * (b / 4294967296) := by omega
  generalize a % 4294967296 = a0 at *
  generalize a / 4294967296 = a1 at *
  generalize b % 4294967296 = b0 at *
  generalize b / 4294967296 = b1 at *
  subst ha
  subst hb
  rw [Int.add_mul, Int.mul_add, Int.mul_add, Int.mul_assoc, Int.mul_assoc, Int.mul_left_comm a0, Int.mul_left_comm a1]
  omega

theorem prod_u {x y : Int} (h : 0 ≤ x ∧ x < 4294967296) (k : 0 ≤ y ∧ y < 4294967296) : 0 ≤ x * y ∧ x * y ≤ 18446744065119617025 := by
  refine ⟨Int.mul_nonneg h.1 k.1, ?_⟩
  calc x * y ≤ 4294967295 * y := Int.mul_le_mul_of_nonneg_right (by omega) k.1
    _ ≤ 18446744065119617025 := by omega

theorem wrap_u {n : Int} (h : 0 ≤ n ∧ n < 18446744073709551616) : IntKind.u64.wrap n = n := by rw [IntKind.wrap_u64]; omega

set_option maxRecDepth 100000 in
theorem mulU_is (a b : Int) (w : World) (ha : 0 ≤ a ∧ a < 18446744073709551616) (hb : 0 ≤ b ∧ b < 18446744073709551616) :
    Calls Try.prog 43 #[.int .u64 a, .int .u64 b] w fun e w' => e = two (a * b) ∧ w' = w := by
  go_enter Try.func43, Try.ntmps43
  go_wp2
  go_ret2
  have e := mul_parts a b
  have c0 : 0 ≤ a / 4294967296 ∧ a / 4294967296 < 4294967296 := by omega
  have c1 : 0 ≤ b / 4294967296 ∧ b / 4294967296 < 4294967296 := by omega
  have c2 : 0 ≤ a % 4294967296 ∧ a % 4294967296 < 4294967296 := by omega
  have c3 : 0 ≤ b % 4294967296 ∧ b % 4294967296 < 4294967296 := by omega
  have p00 := prod_u c2 c3
  have p01 := prod_u c2 c1
  have p10 := prod_u c0 c3
  have p11 := prod_u c0 c1
  refine ⟨ret_two ?_ ?_, rfl⟩
  · rw [and_lo ha, and_lo hb]
    generalize (a / 4294967296) * (b / 4294967296) = q11 at *
    generalize (a % 4294967296) * (b / 4294967296) = q01 at *
    generalize (a / 4294967296) * (b % 4294967296) = q10 at *
    generalize (a % 4294967296) * (b % 4294967296) = q00 at *
    generalize a * b = P at *
    rw [wrap_u (n := q11) (by omega), wrap_u (n := q01) (by omega), wrap_u (n := q10) (by omega), wrap_u (n := q00) (by omega), and_lo (x := q01) (by omega), and_lo (x := q10) (by omega)]
    rw [wrap_u (n := q00 / 4294967296 + q01 % 4294967296) (by omega), wrap_u (n := q00 / 4294967296 + q01 % 4294967296 + q10 % 4294967296) (by omega)]
    rw [wrap_u (n := q11 + q01 / 4294967296) (by omega), wrap_u (n := q11 + q01 / 4294967296 + q10 / 4294967296) (by omega), wrap_u (by omega)]
    omega
  · rw [and_lo ha, and_lo hb]
    generalize (a / 4294967296) * (b / 4294967296) = q11 at *
    generalize (a % 4294967296) * (b / 4294967296) = q01 at *
    generalize (a / 4294967296) * (b % 4294967296) = q10 at *
    generalize (a % 4294967296) * (b % 4294967296) = q00 at *
    generalize a * b = P at *
    rw [wrap_u (n := q01) (by omega), wrap_u (n := q10) (by omega), wrap_u (n := q00) (by omega), and_lo (x := q01) (by omega), and_lo (x := q10) (by omega), and_lo (x := q00) (by omega)]
    rw [wrap_u (n := q00 / 4294967296 + q01 % 4294967296) (by omega), wrap_u (n := q00 / 4294967296 + q01 % 4294967296 + q10 % 4294967296) (by omega)]
    have ew : IntKind.u64.wrap ((q00 / 4294967296 + q01 % 4294967296 + q10 % 4294967296) * 4294967296) = ((q00 / 4294967296 + q01 % 4294967296 + q10 % 4294967296) % 4294967296) * 4294967296 := by
      rw [IntKind.wrap_u64]; omega
    rw [ew, or_hi (by omega) (by omega)]
    omega

end Go.Proofs.Qxb6609068a.Small
