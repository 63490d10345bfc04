/-
  THE SMALL FUNCTIONS on the road of FnSweepRingsGroupsSortsAndBounds.
-/
import Derived.Test.Qxb6609068aSweep1
namespace Go.Proofs.Qxb6609068a.Small
open Go.ChangeShapes Go.WideShapes Go.ChangeAt Go.RowKit
set_option linter.unusedVariables false
set_option linter.unusedSimpArgs false
attribute [local go_sem ↓] Go.wp_at_zero Go.wp_at_succ
attribute [local go_sem] run_store_float

theorem zzBytes21_any (a1 : Option Addr) (n c : Nat) (w : World) (h : n ≤ 9223372036854775807) :
    Calls Try.prog 21 #[.slice a1 n c] w fun e w' => (∃ r, e = .returned (.bool r)) ∧ w' = w := by
  by_cases k1 : 1048576 < n
  · go_enter Try.func21, Try.ntmps21
    go_wp2
    go_ret
    exact ⟨⟨_, rfl⟩, rfl⟩
  · go_enter Try.func21, Try.ntmps21
    go_wp2
    go_ret
    exact ⟨⟨_, rfl⟩, rfl⟩

theorem zzBytes21_yes (a1 : Option Addr) (n c : Nat) (w : World) (h : n ≤ 8192) :
    Calls Try.prog 21 #[.slice a1 n c] w fun e w' => e = .returned (.bool true) ∧ w' = w := by
  have k1 : ¬ 1048576 < n := by omega
  go_enter Try.func21, Try.ntmps21
  go_wp2
  go_ret
  exact ⟨rfl, rfl⟩

theorem ringCount_is (b o n c : Nat) (s : Segs) (w : World) (hn : n ≤ 8192) (hs : ∀ i, i < n → SegAt w b o s i) (hrg : ∀ k, k < n → 0 ≤ s.rg k ∧ s.rg k < 65536) :
    Calls Try.prog 22 #[.slice (some ⟨b, o, none⟩) n c] w fun e w' => e = .returned (.int .i64 ((top s.rg n : Nat) : Int)) ∧ w' = w := by
  have HS : Hid (∀ i, i < n → SegAt w b o s i) := hs
  have HRG : Hid (∀ k, k < n → 0 ≤ s.rg k ∧ s.rg k < 65536) := hrg
  clear hs hrg
  go_enter Try.func22, Try.ntmps22
  go_wp2
  go_loopw [3, 4] (fun v i wr => ∃ k : Nat, k ≤ n ∧ v = .int .i64 ((top s.rg k : Nat) : Int) ∧ i = .int .i64 k ∧ wr = w) (fun v i _ => n - (intOf i).toNat)
  case atStart => exact ⟨0, Nat.zero_le _, rfl, rfl, rfl⟩
  case round =>
    obtain ⟨k, hk, rfl, rfl, rfl⟩ := hrel
    by_cases hlt : k < n
    · obtain ⟨c0, c1, c2, c3, c4, c5, c6, c7⟩ := HS.out k hlt
      obtain ⟨h1, h2⟩ := HRG.out k hlt
      have htl : top s.rg k ≤ 65536 := top_le 65536 k fun j hj => HRG.out j (by omega)
      obtain ⟨T, hT⟩ : ∃ T, T = top s.rg k := ⟨_, rfl⟩
      have HTN : Hid (((top s.rg (k + 1) : Nat) : Int) = max (T : Int) (s.rg k + 1)) := by
        show ((max (top s.rg k) ((s.rg k).toNat + 1) : Nat) : Int) = _
        omega
      rw [← hT] at htl ⊢
      clear hT
      by_cases hg : (T : Int) < s.rg k + 1
      · go_wp2
        go_roundw
        case rel => exact ⟨k + 1, by omega, by rw [HTN.out]; congr 1; omega, by go_num, trivial⟩
        case measure => simp [intOf]; omega
      · go_wp2
        go_roundw
        case rel => exact ⟨k + 1, by omega, by rw [HTN.out]; congr 1; omega, by go_num, trivial⟩
        case measure => simp [intOf]; omega
    · obtain rfl : k = n := by omega
      go_wp2
      go_ret
      exact ⟨rfl, rfl⟩

theorem zzsweep_is (ge n : Nat) (s : Segs) (w : World) (hn : n ≤ 8192) (hs : ∀ k, k < n → EdgeRow w ge s k) (hge : ge < w.heap.size) (hrg : ∀ k, k < n → 0 ≤ s.rg k ∧ s.rg k < 65536) :
    Calls Try.prog 23 #[.slice (some ⟨ge, 0, none⟩) n n] w fun e w' => SweepPost s n w e w' := by
  have hc := sweep_is ge n s w hn hs hge hrg
  clear hs hrg
  go_enter Try.func23, Try.ntmps23
  go_wp2_with (go_at_call 37; refine hc.mono ?_; rintro e w1 ⟨v, base, E, L, rfl, h1, h2, h3, h4⟩)
  go_ret
  exact ⟨v, base, E, L, rfl, h1, h2, h3, h4⟩

/-- a ring, as a value -/
abbrev ringV (v : Value) (l0 l1 h0 h1 : Int) : Value := .agg #[v, .int .i64 0, nilS, .int .i64 l0, .int .i64 l1, .int .i64 h0, .int .i64 h1]

theorem ringEdges_is (p : Option Addr) (n c : Nat) (l0 l1 h0 h1 : Int) (w : World) : Calls Try.prog 24 #[ringV (.slice p n c) l0 l1 h0 h1] w fun e w' => e = .returned (.slice p n c) ∧ Below w.heap.size w w' := by
  go_enter Try.func24, Try.ntmps24
  go_wp2
  go_ret
  exact ⟨rfl, (Below.refl _ _).alloc (Nat.le_refl _) _⟩
theorem ringNext_is (p : Option Addr) (n c : Nat) (l0 l1 h0 h1 : Int) (w : World) : Calls Try.prog 26 #[ringV (.slice p n c) l0 l1 h0 h1] w fun e w' => e = .returned (.int .i64 0) ∧ Below w.heap.size w w' := by
  go_enter Try.func26, Try.ntmps26
  go_wp2
  go_ret
  exact ⟨rfl, (Below.refl _ _).alloc (Nat.le_refl _) _⟩
theorem ringActive_is (p : Option Addr) (n c : Nat) (l0 l1 h0 h1 : Int) (w : World) : Calls Try.prog 27 #[ringV (.slice p n c) l0 l1 h0 h1] w fun e w' => e = .returned nilS ∧ Below w.heap.size w w' := by
  go_enter Try.func27, Try.ntmps27
  go_wp2
  go_ret
  exact ⟨rfl, (Below.refl _ _).alloc (Nat.le_refl _) _⟩
theorem yKey_is (ax ay bx by' rg ix : Int) (t0 t1 : Nat) (w : World) : Calls Try.prog 25 #[.agg #[.int .i64 ax, .int .i64 ay, .int .i64 bx, .int .i64 by', .int .i64 rg, .int .i64 ix, .float .f64 t0, .float .f64 t1]] w fun e w' => e = .returned (.int .i64 (min ay by')) ∧ Below w.heap.size w w' := by
  go_enter Try.func25, Try.ntmps25
  go_wp2
  go_ret
  exact ⟨rfl, (Below.refl _ _).alloc (Nat.le_refl _) _⟩
theorem ringBox_is (p : Option Addr) (n c : Nat) (l0 l1 h0 h1 : Int) (w : World) : Calls Try.prog 28 #[ringV (.slice p n c) l0 l1 h0 h1] w fun e w' => e = .returned (.tuple #[.agg #[.int .i64 l0, .int .i64 l1], .agg #[.int .i64 h0, .int .i64 h1]]) ∧ Below w.heap.size w w' := by
  go_enter Try.func28, Try.ntmps28
  go_wp2
  go_region
  all_goals
    go_wp2
    exact bodyPost_ret (v := .tuple #[.agg #[.int .i64 l0, .int .i64 l1], .agg #[.int .i64 h0, .int .i64 h1]]) (by simp [results, Try.results28, go_sem]) rfl ⟨rfl, ((((Below.refl _ _).alloc (Nat.le_refl _) _).alloc (by simp) _).alloc (by simp; omega) _).drew⟩

end Go.Proofs.Qxb6609068a.Small
