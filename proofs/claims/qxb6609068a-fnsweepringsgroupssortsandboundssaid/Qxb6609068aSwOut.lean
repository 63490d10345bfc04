/-
  THE WALK of FnSweepRingsGroupsSortsAndBounds, where it turns away before any work, and where there is no segment.
-/
import Derived.Test.Qxb6609068aSwLaw
namespace Go.Proofs.Qxb6609068a.Small
open Go.ChangeShapes Go.WideShapes Go.ChangeAt Go.RowKit
set_option linter.unusedVariables false
set_option linter.unusedSimpArgs false
attribute [local go_sem ↓] Go.wp_at_zero Go.wp_at_succ
attribute [local go_sem] run_store_float

set_option maxRecDepth 100000 in
set_option maxHeartbeats 4000000 in
theorem sweep_long (a1 : Option Addr) (n c : Nat) (w : World) (h : n ≤ 9223372036854775807) (hk : 8192 < n) :
    Calls Try.prog 7 #[.slice a1 n c] w fun e w' => e = .returned (.bool true) ∧ Below w.heap.size w w' := by
  go_enter Try.func7, Try.ntmps7
  go_wp2_with (go_at_call 21; refine (zzBytes21_any _ _ _ _ h).mono ?_; rintro e w' ⟨⟨r, rfl⟩, hw⟩; subst w'; cases r)
  all_goals
    go_ret
    exact ⟨rfl, Below.refl _ _⟩

set_option maxRecDepth 100000 in
set_option maxHeartbeats 4000000 in
theorem sweep_out (b o n c f : Nat) (s : Segs) (w : World) (hn : n ≤ 8192) (hs : ∀ i, i < n → SegAt w b o s i) (hf : f < n) (hgood : ∀ k, k < f → 0 ≤ s.rg k ∧ s.rg k < 65536) (hbad : s.rg f < 0 ∨ 65536 ≤ s.rg f) :
    Calls Try.prog 7 #[.slice (some ⟨b, o, none⟩) n c] w fun e w' => e = .returned (.bool true) ∧ Below w.heap.size w w' := by
  have HS : Hid (∀ i, i < n → SegAt w b o s i) := hs
  have HG : Hid (∀ k, k < f → 0 ≤ s.rg k ∧ s.rg k < 65536) := hgood
  have HB : Hid (s.rg f < 0 ∨ 65536 ≤ s.rg f) := hbad
  clear hs hgood hbad
  go_enter Try.func7, Try.ntmps7
  go_wp2_with (go_at_call 21; refine (zzBytes21_yes _ _ _ _ hn).mono ?_; rintro e w' ⟨rfl, hw⟩; subst w')
  go_loopw [3] (fun i wr => ∃ k : Nat, k ≤ f ∧ i = .int .i64 k ∧ wr = w) (fun i _ => f - (intOf i).toNat)
  case atStart => exact ⟨0, Nat.zero_le _, rfl, rfl⟩
  case round =>
    obtain ⟨k, hk, rfl, rfl⟩ := hrel
    obtain ⟨c0, c1, c2, c3, c4, c5, c6, c7⟩ := HS.out k (by omega)
    have hkn : k < n := by omega
    by_cases hlt : k < f
    · obtain ⟨h1, h2⟩ := HG.out k hlt
      go_wp2
      go_roundw
      case rel => exact ⟨k + 1, by omega, by go_num, trivial⟩
      case measure => simp [intOf]; omega
    · obtain rfl : f = k := by omega
      by_cases h1 : s.rg f < 0
      · go_wp2
        go_ret
        exact ⟨rfl, Below.refl _ _⟩
      · have h2 : 65536 ≤ s.rg f := by have := HB.out; omega
        go_wp2
        go_ret
        exact ⟨rfl, Below.refl _ _⟩

theorem ringCount_zero (a : Option Addr) (c : Nat) (w : World) : Calls Try.prog 22 #[.slice a 0 c] w fun e w' => e = .returned (.int .i64 0) ∧ w' = w := by
  go_enter Try.func22, Try.ntmps22
  go_wp2
  go_loopw [3, 4] (fun v i wr => v = .int .i64 0 ∧ i = .int .i64 0 ∧ wr = w) (fun v i _ => 0)
  case atStart => exact ⟨rfl, rfl, rfl⟩
  case round =>
    obtain ⟨rfl, rfl, rfl⟩ := hrel
    go_wp2
    go_ret
    exact ⟨rfl, rfl⟩

set_option maxRecDepth 100000 in
set_option maxHeartbeats 2000000 in
theorem buildEdges_zero (a : Option Addr) (c : Nat) (w : World) : Calls Try.prog 14 #[.slice a 0 c, .int .i64 0, .int .i64 0] w fun e w' => ∃ g, e = .returned (.slice (some ⟨g, 0, none⟩) 0 0) ∧ g < w'.heap.size ∧ Below w.heap.size w w' := by
  obtain ⟨i0, hi0, hz0, hz1, hz2⟩ := info_parts info63
  go_enter Try.func14, Try.ntmps14
  go_wp2_with (at_make; refine wpList_make_full _ rfl _ _ 36 rfl w.heap.size 63 i0 _ 8 Try.underlying36 hi0 hz0 hz1 _ _ _ _ 0 rfl rfl rfl rfl (by omega) (by unfold maxLen; omega) (Nat.le_refl _) ?_; intro w1 hown1 hgrow1; have HB1 : Hid (Below w.heap.size w w1) := (Below.refl w.heap.size w).grown hgrow1 (Nat.le_refl _) (by intro k hk; cases hk); have hq : w.heap.size < w1.heap.size := (hown1.lt _ rfl).2; clear hown1 hgrow1)
  go_loopw [8] (fun i wr => i = .int .i64 0 ∧ w.heap.size < wr.heap.size ∧ Hid (Below w.heap.size w wr)) (fun i _ => 0)
  case atStart => exact ⟨rfl, hq, HB1⟩
  case round =>
    obtain ⟨rfl, hq', HBr⟩ := hrel
    go_wp2
    go_ret
    exact ⟨w.heap.size, rfl, hq', HBr.out⟩

end Go.Proofs.Qxb6609068a.Small
