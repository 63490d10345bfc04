/-
  sort.breakPatterns_func, sort.reverseRange_func, by the shelf's contracts (neither calls 'less').
-/
import Derived.Test.Qxb6609068aSrt5
import Derived.Shelf.GgSortFunc.Pdq
import Derived.Shelf.Lay
import Derived.Ground.GgsProg
namespace Go.Proofs
open Go.Shelf
shelf_lay LaysGg.n6 Ggs 6 at Try as Qxb6609068a.Srt.lay6
end Go.Proofs

namespace Go.Proofs.Qxb6609068a.Srt
open Go.Shelf Go.RowKit Go.Lib Go.Sort
set_option linter.unusedVariables false
variable {α : Type} [Inhabited α] {enc : α → Value} {lt : α → α → Bool} {lb : Array Value} {sf : Nat} {sb : Array Value} {blk off size : Nat} {w0 : World}

theorem kept_grow {blk : Nat} {A B : World} (h : Kept blk A B) (os : Array Obj) : Kept blk A (grow B os) :=
  ⟨by rw [size_grow]; have := h.size; omega, fun b hb hn => by
    rw [show (grow B os).heap = B.heap ++ os from rfl, Array.getElem?_append_left (Nat.lt_of_lt_of_le hb h.size)]
    exact h.block b hb hn⟩

theorem kept_sortWorld (enc : α → Value) (W : World) (blk off n : Nat) (D : Array α) (os : Array Obj) : Kept blk W (sortWorld enc W blk off n D os) := by
  unfold sortWorld
  refine kept_grow ⟨by rw [Go.Proofs.size_putRow]; exact Nat.le_refl _, fun b hb hn => ?_⟩ os
  show (W.heap.modify blk _)[b]? = _
  rw [Array.getElem?_modify, if_neg (fun h => hn h.symm)]

theorem breakPatterns_is (C : Ctx enc lt lb sf sb blk off size w0) (a b : Nat) (d : Array α) (hd : d.size = size) (W : World) (hW : SW enc w0 blk off d W) (hab : a ≤ b) (hb : b ≤ size) :
    Calls Try.prog 70 #[dat lb sf sb, .int .i64 a, .int .i64 b] W fun e w' => e = .returned (.tuple #[]) ∧ Hid (SW enc w0 blk off (breakPatterns d a b) w') ∧ Hid (Kept blk W w') := by
  obtain ⟨d0, h0, hH⟩ := C.holds
  have h := Any.breakPatterns_func_w (P := Try.prog) { lay6 with } enc (.func 49) #[] lb sf sb blk off a b d W (by rw [hd]; exact C.swap) (hW.holds C.hblk hH (by omega)) (C.le hW) hab (by omega) (by rw [hd]; exact C.hsz)
  refine Calls.mono h ?_
  rintro e w' ⟨rfl, n, os, rfl⟩
  exact ⟨rfl, hW.on C.hblk n _ os (breakPatterns_holds d a b hab (by omega)).1, kept_sortWorld _ _ _ _ _ _ _⟩

theorem reverseRange_is (C : Ctx enc lt lb sf sb blk off size w0) (a b : Nat) (d : Array α) (hd : d.size = size) (W : World) (hW : SW enc w0 blk off d W) (hab : a ≤ b) (hb : b ≤ size) :
    Calls Try.prog 72 #[dat lb sf sb, .int .i64 a, .int .i64 b] W fun e w' => e = .returned (.tuple #[]) ∧ Hid (SW enc w0 blk off (reverseRange d a b) w') ∧ Hid (Kept blk W w') := by
  obtain ⟨d0, h0, hH⟩ := C.holds
  have h := Any.reverseRange_func_w (P := Try.prog) { lay6 with } enc (.func 49) #[] lb sf sb blk off a b d W (by rw [hd]; exact C.swap) (hW.holds C.hblk hH (by omega)) (C.le hW) hab (by omega) (by rw [hd]; exact C.hsz)
  refine Calls.mono h ?_
  rintro e w' ⟨rfl, n, os, rfl⟩
  exact ⟨rfl, hW.on C.hblk n _ os (reverseRange_holds d a b hab (by omega)).1, kept_sortWorld _ _ _ _ _ _ _⟩

end Go.Proofs.Qxb6609068a.Srt
