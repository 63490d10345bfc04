/-
  CONTRACT of math.Round.
-/
import Derived.Test.Qxb6609068aSmall
import Derived.Test.Qxb6609068aFloat4
import Derived.WalkKit
import Derived.WalkLawsBesides
namespace Go.Proofs.Qxb6609068a.Small
open Go.ChangeShapes Go.WideShapes Go.ChangeAt Go.RowKit
open Fl (eB roundBits)
set_option linter.unusedVariables false

theorem bits_run (B : Nat) (w : World) : (callFunc 50 #[.float .f64 B]).run Try.prog w = .ok (.value (.int .u64 B)) w := by
  rw [run_callFunc_extern (fn := Try.f50) (e := Extern.MathFloatBits.float64bits) Try.func50 (by kernel_rfl) (by kernel_rfl) (by kernel_rfl) (by kernel_rfl)]
  rfl

theorem frombits_run (n : Int) (w : World) : (callFunc 51 #[.int .u64 n]).run Try.prog w = .ok (.value (.float .f64 n.toNat)) w := by
  rw [run_callFunc_extern (fn := Try.f51) (e := Extern.MathFloatBits.float64frombits) Try.func51 (by kernel_rfl) (by kernel_rfl) (by kernel_rfl) (by kernel_rfl)]
  rfl

theorem rb1 (B : Nat) (h1 : bits .and .u64 ((B : Int) / 4503599627370496) 2047 < 1023) (h2 : (bits .and .u64 ((B : Int) / 4503599627370496) 2047 == 1022) = true) :
    Ending.returned (.float .f64 (bits .or .u64 (bits .and .u64 (B : Int) 9223372036854775808) 4607182418800017408).toNat) = .returned (.float .f64 (roundBits B)) := by
  have e : eB B = 1022 := by unfold eB; simpa using h2
  have h1' : eB B < 1023 := h1
  unfold roundBits
  rw [if_pos h1', if_pos e]

theorem rb2 (B : Nat) (h1 : bits .and .u64 ((B : Int) / 4503599627370496) 2047 < 1023) (h2 : (bits .and .u64 ((B : Int) / 4503599627370496) 2047 == 1022) = false) :
    Ending.returned (.float .f64 (bits .and .u64 (B : Int) 9223372036854775808).toNat) = .returned (.float .f64 (roundBits B)) := by
  have e : ¬ eB B = 1022 := by unfold eB; simpa using h2
  have h1' : eB B < 1023 := h1
  unfold roundBits
  rw [if_pos h1', if_neg e]

theorem rb3 (B : Nat) (h1 : 1023 ≤ bits .and .u64 ((B : Int) / 4503599627370496) 2047) (h2 : bits .and .u64 ((B : Int) / 4503599627370496) 2047 < 1075) :
    Ending.returned (.float .f64 (bits .andNot .u64 (IntKind.u64.wrap ((B : Int) + 2251799813685248 / 2 ^ (bits .and .u64 ((B : Int) / 4503599627370496) 2047 - 1023).toNat)) (4503599627370495 / 2 ^ (bits .and .u64 ((B : Int) / 4503599627370496) 2047 - 1023).toNat)).toNat) = .returned (.float .f64 (roundBits B)) := by
  have h1' : ¬ eB B < 1023 := by unfold eB; omega
  have h2' : eB B < 1075 := h2
  unfold roundBits
  rw [if_neg h1', if_pos h2']
  rfl

theorem rb4 (B : Nat) (h1 : 1023 ≤ bits .and .u64 ((B : Int) / 4503599627370496) 2047) (h2 : 1075 ≤ bits .and .u64 ((B : Int) / 4503599627370496) 2047) :
    Ending.returned (.float .f64 B) = .returned (.float .f64 (roundBits B)) := by
  have h1' : ¬ eB B < 1023 := by unfold eB; omega
  have h2' : ¬ eB B < 1075 := by unfold eB; omega
  unfold roundBits
  rw [if_neg h1', if_neg h2']

set_option maxRecDepth 100000 in
set_option maxHeartbeats 400000 in
theorem round_is (B : Nat) (w : World) :
    Calls Try.prog 41 #[.float .f64 B] w fun e w' => e = .returned (.float .f64 (roundBits B)) ∧ w' = w := by
  have hb1 := bits_run
  have hb2 := frombits_run
  go_enter Try.func41, Try.ntmps41
  go_wp2
  · go_ret; exact ⟨rb1 B ‹_› ‹_›, rfl⟩
  · go_ret; exact ⟨rb2 B ‹_› ‹_›, rfl⟩
  · go_ret; exact ⟨rb3 B ‹_› ‹_›, rfl⟩
  · go_ret; exact ⟨rb4 B ‹_› ‹_›, rfl⟩

end Go.Proofs.Qxb6609068a.Small
