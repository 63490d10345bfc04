/-
  CONTRACTS of moreThanTwoThirds and zzLeastOverTwoThirds, and the plain laws of the two.
-/
import Derived.Test.Qxb6614831aRows
import Derived.WalkKit
import Derived.ProofKit
import Derived.OpenShut
import Derived.ShutString
namespace Go.Proofs.Qxb6614831a.Small
open Go.ChangeShapes Go.WideShapes Go.ChangeAt Go.RowKit
open Go.ChangeMaps (open_string shut_string)

theorem ret_bool {a b : Bool} (h : a = b) : Ending.returned (.bool a) = .returned (.bool b) := by rw [h]
theorem ret_int {k : IntKind} {a b : Int} (h : a = b) : Ending.returned (.int k a) = .returned (.int k b) := by rw [h]

/-- more than two thirds full -/
def moreB (m s : Int) : Bool := decide (2 * s < 3 * m)

/-- the least number above two thirds of s -/
def leastZ (s : Int) : Int := s - (s + 2) / 3 + 1

theorem more_is (m s : Int) (b : Bool) (hb : moreB m s = b) (w : World) (h0 : 0 ≤ m) (h1 : m ≤ s) (h2 : s ≤ 9223372036854775807) :
    Calls Try.prog 26 #[.int .i64 m, .int .i64 s] w fun e w' => e = .returned (.bool b) ∧ w' = w := by
  have HB : Hid (moreB m s = b) := hb
  clear hb
  go_enter Try.func26, Try.ntmps26
  go_wp2
  go_ret
  refine ⟨ret_bool ?_, rfl⟩
  rw [← HB.out]
  unfold moreB
  apply decide_eq_decide.mpr; omega

theorem zzmore_is (m s : Int) (b : Bool) (hb : moreB m s = b) (w : World) (h0 : 0 ≤ m) (h1 : m ≤ s) (h2 : s ≤ 9223372036854775807) :
    Calls Try.prog 10 #[.int .i64 m, .int .i64 s] w fun e w' => e = .returned (.bool b) ∧ w' = w := by
  have HB : Hid (moreB m s = b) := hb
  clear hb
  go_enter Try.func10, Try.ntmps10
  go_wp2_with (go_at_call 26; refine (more_is m s b HB.out _ h0 h1 h2).mono ?_; rintro e w' ⟨rfl, rfl⟩)
  go_ret
  exact ⟨rfl, rfl⟩

theorem least_is (s : Int) (w : World) (h0 : 0 ≤ s) (h2 : s ≤ 9223372036854775807) :
    Calls Try.prog 11 #[.int .i64 s] w fun e w' => e = .returned (.int .i64 (leastZ s)) ∧ w' = w := by
  have hd : 0 ≤ s / 3 ∧ s / 3 ≤ s := by omega
  by_cases hr : s % 3 = 0
  · have hr' : (s % 3 != 0) = false := by simp [hr]
    have HR : Hid (s % 3 = 0) := hr
    clear hr
    go_enter Try.func11, Try.ntmps11
    go_wp2
    go_ret
    refine ⟨ret_int ?_, rfl⟩
    have := HR.out
    unfold leastZ; omega
  · have hr' : (s % 3 != 0) = true := by simp [hr]
    have hd' : s / 3 + 1 ≤ s := by omega
    go_enter Try.func11, Try.ntmps11
    go_wp2
    go_ret
    refine ⟨ret_int ?_, rfl⟩
    unfold leastZ; omega

/-! ### the plain laws -/
theorem more_least (m s : Int) : decide (leastZ s ≤ m) = moreB m s := by
  unfold leastZ moreB
  apply decide_eq_decide.mpr; omega

theorem more_scale (m s k : Int) (hk : 1 ≤ k) : moreB (k * m) (k * s) = moreB m s := by
  unfold moreB
  apply decide_eq_decide.mpr
  have e : 3 * (k * m) - 2 * (k * s) = k * (3 * m - 2 * s) := by
    rw [Int.mul_sub, ← Int.mul_assoc, ← Int.mul_assoc, ← Int.mul_assoc, ← Int.mul_assoc, Int.mul_comm 3 k, Int.mul_comm 2 k]
  constructor
  · intro h
    rcases Int.lt_or_le 0 (3 * m - 2 * s) with h1 | h1
    · omega
    · have := Int.mul_nonpos_of_nonneg_of_nonpos (by omega : 0 ≤ k) h1
      omega
  · intro h
    have := Int.mul_pos (by omega : 0 < k) (by omega : 0 < 3 * m - 2 * s)
    omega

end Go.Proofs.Qxb6614831a.Small
