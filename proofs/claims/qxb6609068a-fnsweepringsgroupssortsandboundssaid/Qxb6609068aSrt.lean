/-
  SORTING WITH A 'less' THAT LAYS BLOCKS: what the family of sort.pdqsort_func is told, once; sort.insertionSort_func.
-/
import Derived.Test.Qxb6609068aRows
import Derived.Shelf.GgSortFunc.SW
import Derived.Sort.WalkA
import Derived.WalkKit
namespace Go.Proofs.Qxb6609068a.Srt
open Go.Shelf Go.RowKit Go.Lib Go.Sort
set_option linter.unusedVariables false
variable {α : Type} [Inhabited α]

/-- all that lay outside the row lies there still -/
structure Kept (blk : Nat) (W W' : World) : Prop where
  size : W.heap.size ≤ W'.heap.size
  block : ∀ b, b < W.heap.size → b ≠ blk → W'.heap[b]? = W.heap[b]?

theorem Kept.refl (blk : Nat) (W : World) : Kept blk W W := ⟨Nat.le_refl _, fun _ _ _ => rfl⟩
theorem Kept.trans {blk : Nat} {A B C : World} (h : Kept blk A B) (k : Kept blk B C) : Kept blk A C :=
  ⟨Nat.le_trans h.size k.size, fun b hb hn => (k.block b (Nat.lt_of_lt_of_le hb h.size) hn).trans (h.block b hb hn)⟩
theorem Kept.alloc {blk : Nat} {A B : World} (h : Kept blk A B) (o : Obj) : Kept blk A (B.alloc o) :=
  ⟨Nat.le_trans h.size (by simp), fun b hb hn => by rw [Below.heap_alloc _ _ _ (Nat.lt_of_lt_of_le hb h.size)]; exact h.block b hb hn⟩
theorem Kept.ofAlloc {blk : Nat} {A B : World} {o : Obj} (h : Kept blk (A.alloc o) B) : Kept blk A B := ((Kept.refl blk A).alloc o).trans h
theorem Kept.cell {blk : Nat} {A B : World} (h : Kept blk A B) {b o : Nat} {v : Value} (hc : A.cell? ⟨b, o, none⟩ = some v) (hn : b ≠ blk) : B.cell? ⟨b, o, none⟩ = some v := by
  rw [World.cell?_of_block (h.block b (World.block_lt_of_cell? A _ hc) hn)]; exact hc

/-- what is told of a sort, once: the row, the two function values -/
structure Ctx (enc : α → Value) (lt : α → α → Bool) (lb : Array Value) (sf : Nat) (sb : Array Value) (blk off size : Nat) (w0 : World) : Prop where
  hblk : blk < w0.heap.size
  hsz : size < 4611686018427387904
  holds : ∃ d0 : Array α, d0.size = size ∧ Holds enc w0 blk off d0
  less : ∀ (W : World) (dk : Array α), SW enc w0 blk off dk W → dk.size = size → ∀ i j : Nat, i < size → j < size →
    Calls Try.prog 49 (#[.int .i64 i, .int .i64 j] ++ lb) W fun e w' => e = .returned (.bool (lt dk[i]! dk[j]!)) ∧ SW enc w0 blk off dk w' ∧ Kept blk W w'
  swap : SwapSwaps Try.prog sf sb enc blk off size

variable {enc : α → Value} {lt : α → α → Bool} {lb : Array Value} {sf : Nat} {sb : Array Value} {blk off size : Nat} {w0 : World}

theorem eg49 : ∀ args w, (callFunc 49 args).run Try.prog w = .ok (.enter 49 args) w := enters_of Try.func49 (by kernel_rfl) rfl

theorem kept_set (W : World) (blk o : Nat) (v : Value) : Kept blk W (W.setCell ⟨blk, o, none⟩ v) :=
  ⟨by simp, fun b _ hn => heap_setCell_other W _ b v hn⟩

theorem Ctx.swapped (C : Ctx enc lt lb sf sb blk off size w0) {W : World} {dk : Array α} (hW : SW enc w0 blk off dk W) (hd : dk.size = size) (i j : Nat) (hi : i < size) (hj : j < size) :
    ∃ W', (callFunc sf (#[.int .i64 i, .int .i64 j] ++ sb)).run Try.prog W = .ok (.value (.tuple #[])) W' ∧ SW enc w0 blk off (swp dk i j) W' ∧ Kept blk W W' := by
  obtain ⟨d0, h0, hH⟩ := C.holds
  refine ⟨_, C.swap W dk (hW.holds C.hblk hH (by omega)) hd i j hi hj, hW.swap C.hblk i j (by omega) (by omega), ?_⟩
  exact (kept_set W blk _ _).trans (kept_set _ blk _ _)

theorem Ctx.le (C : Ctx enc lt lb sf sb blk off size w0) {W : World} {dk : Array α} (hW : SW enc w0 blk off dk W) : blk < W.heap.size := hW.lt C.hblk

/-- what the family hands around as 'data' -/
abbrev dat (lb : Array Value) (sf : Nat) (sb : Array Value) : Value := .agg #[.func (.func 49) #[] lb, .func (.func sf) #[] sb]
abbrev datB (lb : Array Value) (sf : Nat) (sb : Array Value) : Obj := .cells #[.func (.func 49) #[] lb, .func (.func sf) #[] sb] 106

/-- the box of 'data', laid at W, read in a later world -/
theorem box_at (lb : Array Value) (sf : Nat) (sb : Array Value) {blk : Nat} {W W' : World} (h : Kept blk (W.alloc (datB lb sf sb)) W') (hlt : blk < W.heap.size) :
    W'.cell? ⟨W.heap.size, 0, none⟩ = some (.func (.func 49) #[] lb) ∧ W'.cell? ⟨W.heap.size, 1, none⟩ = some (.func (.func sf) #[] sb) :=
  ⟨h.cell (cell_of_row _ _ 0 _ _ _ (heap_alloc_new W _)) (by omega), h.cell (cell_of_row _ _ 1 _ _ _ (heap_alloc_new W _)) (by omega)⟩

set_option maxHeartbeats 2000000 in
set_option maxRecDepth 100000 in
theorem insertionSort_is (C : Ctx enc lt lb sf sb blk off size w0) (a b : Nat) (d : Array α) (hd : d.size = size) (W : World) (hW : SW enc w0 blk off d W) (hab : a ≤ b) (hb : b ≤ size) :
    Calls Try.prog 68 #[dat lb sf sb, .int .i64 a, .int .i64 b] W fun e w' => e = .returned (.tuple #[]) ∧ SW enc w0 blk off (Sort.insertionSort lt d a b) w' ∧ Kept blk W w' := by
  have hsz := C.hsz
  have hlt := C.le hW
  have HC : Hid (Ctx enc lt lb sf sb blk off size w0) := C
  have HW : Hid (SW enc w0 blk off d W) := hW
  clear C hW
  have eg := eg49
  go_enter Try.func68, Try.ntmps68
  go_wp2
  go_loopw [6] (fun vi wr => ∃ (i : Nat) (dk : Array α), vi = .int .i64 i ∧ a < i ∧ i ≤ b + 1 ∧ dk.size = size ∧ Hid (SW enc w0 blk off dk wr) ∧ Hid (Kept blk (W.alloc (datB lb sf sb)) wr) ∧
      Hid (insOuter lt a b i dk = insOuter lt a b (a + 1) d)) (fun vi _ => b + 1 - (intOf vi).toNat)
  case atStart => exact ⟨a + 1, d, by go_num, by omega, by omega, hd, HW.out.alloc _, Kept.refl _ _, rfl⟩
  case round =>
    obtain ⟨i, dk, rfl, hai, hib, hsk, HS, HK, HO⟩ := hrel
    by_cases hlt' : i < b
    · go_wp2
      go_loopw [7] (fun vj wr2 => ∃ (j : Nat) (dj : Array α), vj = .int .i64 j ∧ a ≤ j ∧ j ≤ i ∧ dj.size = size ∧ Hid (SW enc w0 blk off dj wr2) ∧ Hid (Kept blk (W.alloc (datB lb sf sb)) wr2) ∧
          Hid (insInner lt a j dj = insInner lt a i dk)) (fun vj _ => (intOf vj).toNat)
      case atStart => exact ⟨i, dk, rfl, by omega, Nat.le_refl _, hsk, HS, HK, rfl⟩
      case round =>
        obtain ⟨j, dj, rfl, haj, hji, hsj, HS2, HK2, HI⟩ := hrel
        obtain ⟨c0, c1⟩ := box_at lb sf sb HK2.out hlt
        by_cases hja : a < j
        · have hl := HC.out.less wr dj HS2.out hsj j (j - 1) (by omega) (by omega)
          rw [show (((j - 1 : Nat) : Int)) = (j : Int) - 1 by omega] at hl
          cases hlv : lt dj[j]! dj[j - 1]! with
          | true =>
            rw [hlv] at hl
            go_wp2_with (go_at_fn 49; refine hl.mono ?_; rintro e w1 ⟨rfl, hS1, hK1⟩; have HS3 : Hid (SW enc w0 blk off dj w1) := hS1; have HK3 : Hid (Kept blk wr w1) := hK1; clear hS1 hK1; obtain ⟨d0, d1⟩ := box_at lb sf sb (HK2.out.trans HK3.out) hlt)
            obtain ⟨w2, hs, hS4, hK4⟩ := HC.out.swapped HS3.out hsj j (j - 1) (by omega) (by omega)
            rw [show (((j - 1 : Nat) : Int)) = (j : Int) - 1 by omega] at hs
            rw [hs, Oper.upon_value]
            go_wp2
            go_roundw
            case rel => exact ⟨j - 1, swp dj j (j - 1), by congr 1 <;> omega, by omega, by omega, by rw [size_swp]; exact hsj, hS4, HK2.out.trans (HK3.out.trans hK4), by show _ = _; rw [← HI.out, insInner_go lt a j dj hja hlv]⟩
            case measure => simp [intOf]; omega
          | false =>
            rw [hlv] at hl
            go_wp2_with (go_at_fn 49; refine hl.mono ?_; rintro e w1 ⟨rfl, hS1, hK1⟩; have HS3 : Hid (SW enc w0 blk off dj w1) := hS1; have HK3 : Hid (Kept blk wr w1) := hK1; clear hS1 hK1)
            go_roundw
            case rel => exact ⟨i + 1, dj, by go_num, by omega, by omega, hsj, HS3, HK2.out.trans HK3.out, by show _ = _; rw [← HO.out, insOuter_go _ _ _ _ _ hlt', ← HI.out, insInner_stop _ _ _ _ (Or.inr hlv)]⟩
            case measure => simp [intOf]; omega
        · go_wp2
          go_roundw
          case rel => exact ⟨i + 1, dj, by go_num, by omega, by omega, hsj, HS2, HK2, by show _ = _; rw [← HO.out, insOuter_go _ _ _ _ _ hlt', ← HI.out, insInner_stop _ _ _ _ (Or.inl (by omega))]⟩
          case measure => simp [intOf]; omega
    · go_wp2
      go_end0
      exact ⟨rfl, by unfold Sort.insertionSort; rw [← HO.out, insOuter_stop _ _ _ _ _ hlt']; exact HS.out, HK.out.ofAlloc⟩

end Go.Proofs.Qxb6609068a.Srt
