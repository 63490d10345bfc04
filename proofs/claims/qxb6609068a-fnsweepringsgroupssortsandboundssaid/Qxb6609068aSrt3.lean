/-
  sort.heapSort_func, with a 'less' that lays blocks.
-/
import Derived.Test.Qxb6609068aSrt2
namespace Go.Proofs.Qxb6609068a.Srt
open Go.Shelf Go.RowKit Go.Lib Go.Sort
set_option linter.unusedVariables false
set_option linter.unusedSimpArgs false
variable {α : Type} [Inhabited α] {enc : α → Value} {lt : α → α → Bool} {lb : Array Value} {sf : Nat} {sb : Array Value} {blk off size : Nat} {w0 : World}

theorem half_of {a b : Nat} (hab : a ≤ b) : ((b : Int) - (a : Int) - 1).tdiv 2 = (((b - a - 1) / 2 + 1 : Nat) : Int) - 1 := by
  by_cases h : a = b
  · subst h
    rw [show ((a : Int) - (a : Int) - 1) = -1 by omega]
    rw [show a - a - 1 = 0 by omega]
    decide
  · rw [Int.tdiv_eq_ediv_of_nonneg (by omega)]
    omega

set_option maxHeartbeats 4000000 in
set_option maxRecDepth 100000 in
theorem heapSort_is (C : Ctx enc lt lb sf sb blk off size w0) (a b : Nat) (d : Array α) (hd : d.size = size) (W : World) (hW : SW enc w0 blk off d W) (hab : a ≤ b) (hb : b ≤ size) :
    Calls Try.prog 69 #[dat lb sf sb, .int .i64 a, .int .i64 b] W fun e w' => e = .returned (.tuple #[]) ∧ Hid (SW enc w0 blk off (heapSort lt d a b) w') ∧ Hid (Kept blk W w') := by
  have hsz := C.hsz
  have hlt := C.le hW
  have HC : Hid (Ctx enc lt lb sf sb blk off size w0) := C
  have HW : Hid (SW enc w0 blk off d W) := hW
  clear C hW
  have eg := eg49
  have ecast : ((b - a : Nat) : Int) = (b : Int) - (a : Int) := by omega
  go_enter Try.func69, Try.ntmps69
  go_wp2
  go_loopg [9] ((b - a - 1) / 2 + 1) (fun k s9 wr => s9 = .int .i64 ((k : Int) - 1) ∧ k ≤ (b - a - 1) / 2 + 1 ∧ ∃ dk : Array α, dk.size = size ∧ Hid (SW enc w0 blk off dk wr) ∧ Hid (Kept blk (W.alloc (datB lb sf sb)) wr) ∧
    Hid (heapBuild lt (b - a) a k dk = heapBuild lt (b - a) a ((b - a - 1) / 2 + 1) d))
  case atStart => exact ⟨by rw [half_of hab], Nat.le_refl _, d, hd, HW.out.alloc _, Kept.refl _ _, rfl⟩
  case round =>
    obtain ⟨rfl, hkk, dk, hsk, HS, HK, HO⟩ := hrel
    obtain ⟨c0, c1⟩ := box_at lb sf sb HK.out hlt
    cases gk with
    | zero =>
      go_wp2
      go_loopg [10] (b - a) (fun k s10 wr => s10 = .int .i64 ((k : Int) - 1) ∧ k ≤ b - a ∧ ∃ dj : Array α, dj.size = size ∧ Hid (SW enc w0 blk off dj wr) ∧ Hid (Kept blk (W.alloc (datB lb sf sb)) wr) ∧
        Hid (heapPop lt a k dj = heapPop lt a (b - a) dk))
      case atStart => exact ⟨by rw [ecast], Nat.le_refl _, dk, hsk, HS, HK, rfl⟩
      case round =>
        obtain ⟨rfl, hkj, dj, hsj, HS2, HK2, HO2⟩ := hrel
        obtain ⟨c2, c3⟩ := box_at lb sf sb HK2.out hlt
        cases gk with
        | zero =>
          go_wp2
          go_end0
          refine ⟨rfl, ?_, HK2.out.ofAlloc⟩
          unfold heapSort
          rw [← HO.out]
          show Hid (SW enc w0 blk off (heapPop lt a (b - a) dk) _)
          rw [← HO2.out]
          exact HS2
        | succ k =>
          go_wp2
          refine HC.out.uponSwap HS2.out hsj a (a + k) (by omega) (by omega) (by omega) (by omega) ?_
          intro w3 HS3 HK3
          obtain ⟨c4, c5⟩ := box_at lb sf sb (HK2.out.trans HK3.out) hlt
          go_wp2_with (go_at_call 76; refine (siftI HC.out 0 k a (by omega) (by omega) (by omega) _ (by rw [size_swp]; exact hsj) _ HS3.out (by omega) (by omega)).mono ?_; rintro e w1 ⟨rfl, HS1, HK1⟩)
          go_roundg k
          case measure => omega
          case rel => exact ⟨by go_num, by omega, _, by rw [size_sd _ _ _ _ _ (Nat.le_refl _), size_swp]; exact hsj, HS1, (HK2.out.trans HK3.out).trans HK1.out, HO2.out⟩
    | succ k =>
      go_wp2_with (go_at_call 76; refine (siftI HC.out k (b - a) a (by omega) (by omega) (by omega) dk hsk _ HS.out (by omega) (by omega)).mono ?_; rintro e w1 ⟨rfl, HS1, HK1⟩)
      go_roundg k
      case measure => omega
      case rel => exact ⟨by go_num, by omega, _, by rw [size_sd _ _ _ _ _ (Nat.le_refl _)]; exact hsk, HS1, HK.out.trans HK1.out, HO.out⟩

end Go.Proofs.Qxb6609068a.Srt
