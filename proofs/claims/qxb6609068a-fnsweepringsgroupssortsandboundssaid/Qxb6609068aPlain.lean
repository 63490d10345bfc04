/-
  THE PLAIN LAWS of 'between' on the grid: whole numbers alone, no Go in sight.
-/
namespace Go.Proofs.Qxb6609068a.Plain

theorem mul_pos_iff {c x : Int} (hc : 0 < c) : 0 < c * x ↔ 0 < x := by
  constructor
  · intro h
    rcases Int.lt_or_le 0 x with h1 | h1
    · exact h1
    · have := Int.mul_nonpos_of_nonneg_of_nonpos (Int.le_of_lt hc) h1
      omega
  · intro h; exact Int.mul_pos hc h

theorem mul_nonneg_iff {c x : Int} (hc : 0 < c) : 0 ≤ c * x ↔ 0 ≤ x := by
  constructor
  · intro h
    rcases Int.lt_or_le x 0 with h1 | h1
    · have := Int.mul_neg_of_pos_of_neg hc h1
      omega
    · exact h1
  · intro h; exact Int.mul_nonneg (Int.le_of_lt hc) h

theorem sq_pos {x : Int} (h : x ≠ 0) : 0 < x * x := by
  rcases Int.lt_or_gt_of_ne h with h1 | h1
  · exact Int.mul_pos_of_neg_of_neg h1 h1
  · exact Int.mul_pos h1 h1

theorem sq_nonneg (x : Int) : 0 ≤ x * x := by
  rcases Int.lt_or_le x 0 with h1 | h1
  · exact Int.le_of_lt (Int.mul_pos_of_neg_of_neg h1 h1)
  · exact Int.mul_nonneg h1 h1

/-- the sign of the dot product along a direction with a part across -/
theorem dot_pos {dx dy ex ey : Int} (hd : 0 < dx) (hc : dx * ey = dy * ex) : 0 < dx * ex + dy * ey ↔ 0 < ex := by
  have e : dx * (dx * ex + dy * ey) = (dx * dx + dy * dy) * ex := by
    rw [Int.mul_add, Int.add_mul, ← Int.mul_assoc, ← Int.mul_assoc, Int.mul_comm dx dy, Int.mul_assoc dy dx ey, hc, Int.mul_assoc dy dy ex]
  have hp : 0 < dx * dx + dy * dy := by
    have := Int.mul_pos hd hd
    have := sq_nonneg dy
    omega
  rw [← mul_pos_iff hd, e, mul_pos_iff hp]

theorem cross_sub {dx dy ex ey : Int} (hc : dx * ey = dy * ex) : dx * (dy - ey) = dy * (dx - ex) := by
  rw [Int.mul_sub, Int.mul_sub, hc, Int.mul_comm]

/-- on the line: where e lies along d, told by the first coordinate -/
theorem box_pos {dx dy ex ey : Int} (hd : 0 < dx) (hc : dx * ey = dy * ex) (h1 : 0 ≤ ex) (h2 : ex ≤ dx) : (0 ≤ ey ∧ ey ≤ dy) ∨ (dy ≤ ey ∧ ey ≤ 0) := by
  have hs := cross_sub hc
  rcases Int.lt_or_le dy 0 with hy | hy
  · right
    have a : 0 ≤ dx * -ey := by
      have : dx * -ey = -dy * ex := by rw [Int.mul_neg, hc, Int.neg_mul]
      rw [this]; exact Int.mul_nonneg (by omega) h1
    have b : 0 ≤ dx * -(dy - ey) := by
      have : dx * -(dy - ey) = -dy * (dx - ex) := by rw [Int.mul_neg, hs, Int.neg_mul]
      rw [this]; exact Int.mul_nonneg (by omega) (by omega)
    rw [mul_nonneg_iff hd] at a b
    omega
  · left
    have a : 0 ≤ dx * ey := by rw [hc]; exact Int.mul_nonneg hy h1
    have b : 0 ≤ dx * (dy - ey) := by rw [hs]; exact Int.mul_nonneg hy (by omega)
    rw [mul_nonneg_iff hd] at a b
    omega

/-- in the box of 0 and d -/
def inBox (x y dx dy : Int) : Prop := ((0 ≤ x ∧ x ≤ dx) ∨ (dx ≤ x ∧ x ≤ 0)) ∧ ((0 ≤ y ∧ y ≤ dy) ∨ (dy ≤ y ∧ y ≤ 0))

def open0 (dx dy ex ey : Int) : Prop := inBox ex ey dx dy ∧ ¬ (ex = 0 ∧ ey = 0) ∧ ¬ (ex = dx ∧ ey = dy)

def btw0 (dx dy ex ey : Int) : Prop := 0 < dx * ex + dy * ey ∧ 0 < dx * (dx - ex) + dy * (dy - ey)

theorem open_x {dx dy ex ey : Int} (hd : 0 < dx) (hc : dx * ey = dy * ex) : open0 dx dy ex ey ↔ 0 < ex ∧ ex < dx := by
  constructor
  · rintro ⟨⟨hx, _⟩, h1, h2⟩
    have hx1 : 0 ≤ ex := by omega
    have hx2 : ex ≤ dx := by omega
    refine ⟨?_, ?_⟩
    · rcases Int.lt_or_le 0 ex with h | h
      · exact h
      · have e0 : ex = 0 := by omega
        rw [e0, Int.mul_zero] at hc
        rcases Int.mul_eq_zero.mp hc with h' | h'
        · omega
        · exact absurd ⟨e0, h'⟩ h1
    · rcases Int.lt_or_le ex dx with h | h
      · exact h
      · have e0 : ex = dx := by omega
        have hs := cross_sub hc
        rw [e0, Int.sub_self, Int.mul_zero] at hs
        rcases Int.mul_eq_zero.mp hs with h' | h'
        · omega
        · exact absurd ⟨e0, by omega⟩ h2
  · rintro ⟨h1, h2⟩
    exact ⟨⟨by omega, box_pos hd hc (by omega) (by omega)⟩, by omega, by omega⟩

theorem btw_x {dx dy ex ey : Int} (hd : 0 < dx) (hc : dx * ey = dy * ex) : btw0 dx dy ex ey ↔ 0 < ex ∧ ex < dx := by
  unfold btw0
  rw [dot_pos hd hc, dot_pos hd (cross_sub hc)]
  omega

theorem open_neg {dx dy ex ey : Int} : open0 (-dx) (-dy) (-ex) (-ey) ↔ open0 dx dy ex ey := by
  unfold open0 inBox; omega

theorem btw_neg {dx dy ex ey : Int} : btw0 (-dx) (-dy) (-ex) (-ey) ↔ btw0 dx dy ex ey := by
  unfold btw0
  have e1 : -dx - -ex = -(dx - ex) := by omega
  have e2 : -dy - -ey = -(dy - ey) := by omega
  rw [e1, e2]; simp only [Int.neg_mul_neg]

theorem open_swap {dx dy ex ey : Int} : open0 dy dx ey ex ↔ open0 dx dy ex ey := by
  unfold open0 inBox; omega

theorem btw_swap {dx dy ex ey : Int} : btw0 dy dx ey ex ↔ btw0 dx dy ex ey := by
  unfold btw0; rw [Int.add_comm (dy * ey), Int.add_comm (dy * (dy - ey))]

theorem neg_cross {dx dy ex ey : Int} (hc : dx * ey = dy * ex) : -dx * -ey = -dy * -ex := by
  rw [Int.neg_mul_neg, Int.neg_mul_neg, hc]

/-- a direction that isn't nought: one of four ways to say where e lies along d -/
theorem btw_iff {dx dy ex ey : Int} (hc : dx * ey = dy * ex) : btw0 dx dy ex ey ↔ open0 dx dy ex ey := by
  rcases Int.lt_or_le 0 dx with h | h
  · rw [btw_x h hc, open_x h hc]
  rcases Int.lt_or_le dx 0 with h' | h'
  · rw [← btw_neg, ← open_neg, btw_x (by omega) (neg_cross hc), open_x (by omega) (neg_cross hc)]
  have e : dx = 0 := by omega
  rw [← btw_swap, ← open_swap]
  rcases Int.lt_or_le 0 dy with k | k
  · rw [btw_x k hc.symm, open_x k hc.symm]
  rcases Int.lt_or_le dy 0 with k' | k'
  · rw [← btw_neg, ← open_neg, btw_x (by omega) (neg_cross hc.symm), open_x (by omega) (neg_cross hc.symm)]
  have e' : dy = 0 := by omega
  subst e; subst e'
  unfold btw0 open0 inBox
  simp only [Int.zero_mul]
  omega

/-! ### an inner point parts the open segment -/

/-- the law, told of the directions -/
def Split (dx dy ex ey gx gy : Int) : Prop :=
  (btw0 dx dy gx gy ↔ btw0 ex ey gx gy ∨ btw0 (dx - ex) (dy - ey) (gx - ex) (gy - ey) ∨ (gx = ex ∧ gy = ey)) ∧ ¬ (btw0 ex ey gx gy ∧ btw0 (dx - ex) (dy - ey) (gx - ex) (gy - ey))

theorem cross_trans {dx dy ex ey gx gy : Int} (hd : dx ≠ 0) (hc : dx * ey = dy * ex) (hg : dx * gy = dy * gx) : ex * gy = ey * gx := by
  have h : dx * (ex * gy - ey * gx) = 0 := by
    rw [Int.mul_sub, ← Int.mul_assoc, Int.mul_comm dx ex, Int.mul_assoc, hg, ← Int.mul_assoc dx ey gx, hc, ← Int.mul_assoc, Int.mul_comm ex dy, Int.sub_self]
  rcases Int.mul_eq_zero.mp h with h' | h'
  · exact absurd h' hd
  · omega

theorem cross_sub2 {dx dy ex ey gx gy : Int} (hc : dx * ey = dy * ex) (hg : dx * gy = dy * gx) : dx * (gy - ey) = dy * (gx - ex) := by
  rw [Int.mul_sub, Int.mul_sub, hc, hg]

theorem split_x {dx dy ex ey gx gy : Int} (hd : 0 < dx) (hc : dx * ey = dy * ex) (hg : dx * gy = dy * gx) (ho : open0 dx dy ex ey) : Split dx dy ex ey gx gy := by
  rw [open_x hd hc] at ho
  have h1 := cross_trans (by omega) hc hg
  have h2 := cross_trans (by omega) (cross_sub hc) (cross_sub2 hc hg)
  unfold Split
  rw [btw_x hd hg, btw_x ho.1 h1, btw_x (by omega) h2]
  refine ⟨⟨fun h => ?_, fun h => by omega⟩, by omega⟩
  rcases Int.lt_or_le gx ex with k | k
  · left; omega
  rcases Int.lt_or_le ex gx with k' | k'
  · right; left; omega
  have e : gx = ex := by omega
  right; right
  refine ⟨e, ?_⟩
  have h3 := cross_sub2 hc hg
  rw [e, Int.sub_self, Int.mul_zero] at h3
  rcases Int.mul_eq_zero.mp h3 with h' | h'
  · omega
  · omega

theorem split_neg {dx dy ex ey gx gy : Int} (h : Split (-dx) (-dy) (-ex) (-ey) (-gx) (-gy)) : Split dx dy ex ey gx gy := by
  unfold Split at h ⊢
  have e1 : -dx - -ex = -(dx - ex) := by omega
  have e2 : -dy - -ey = -(dy - ey) := by omega
  have e3 : -gx - -ex = -(gx - ex) := by omega
  have e4 : -gy - -ey = -(gy - ey) := by omega
  rw [e1, e2, e3, e4, btw_neg, btw_neg, btw_neg] at h
  have e5 : (-gx = -ex ∧ -gy = -ey) ↔ (gx = ex ∧ gy = ey) := by omega
  rw [e5] at h
  exact h

theorem split_swap {dx dy ex ey gx gy : Int} (h : Split dy dx ey ex gy gx) : Split dx dy ex ey gx gy := by
  unfold Split at h ⊢
  rw [btw_swap (dx := dx), btw_swap (dx := ex) (dy := ey), btw_swap (dx := dx - ex) (dy := dy - ey)] at h
  have e5 : (gy = ey ∧ gx = ex) ↔ (gx = ex ∧ gy = ey) := by omega
  rw [e5] at h
  exact h

theorem split_all {dx dy ex ey gx gy : Int} (hc : dx * ey = dy * ex) (hg : dx * gy = dy * gx) (ho : open0 dx dy ex ey) : Split dx dy ex ey gx gy := by
  rcases Int.lt_or_le 0 dx with h | h
  · exact split_x h hc hg ho
  rcases Int.lt_or_le dx 0 with h' | h'
  · exact split_neg (split_x (by omega) (neg_cross hc) (neg_cross hg) (open_neg.mpr ho))
  have e : dx = 0 := by omega
  apply split_swap
  rcases Int.lt_or_le 0 dy with k | k
  · exact split_x k hc.symm hg.symm (open_swap.mpr ho)
  rcases Int.lt_or_le dy 0 with k' | k'
  · exact split_neg (split_x (by omega) (neg_cross hc.symm) (neg_cross hg.symm) (open_neg.mpr (open_swap.mpr ho)))
  have e' : dy = 0 := by omega
  subst e; subst e'
  unfold open0 inBox at ho
  omega

/-! ### bounds of products -/
theorem mul_le_of {x y m : Int} (hx : -m ≤ x ∧ x ≤ m) (hy : -m ≤ y ∧ y ≤ m) : -(m * m) ≤ x * y ∧ x * y ≤ m * m := by
  have hm : 0 ≤ m := by omega
  have a : 0 ≤ (m - x) * (m + y) := Int.mul_nonneg (by omega) (by omega)
  have b : 0 ≤ (m + x) * (m - y) := Int.mul_nonneg (by omega) (by omega)
  have c : 0 ≤ (m - x) * (m - y) := Int.mul_nonneg (by omega) (by omega)
  have d : 0 ≤ (m + x) * (m + y) := Int.mul_nonneg (by omega) (by omega)
  simp only [Int.sub_mul, Int.add_mul, Int.mul_sub, Int.mul_add] at a b c d
  have e1 : m * y = y * m := Int.mul_comm _ _
  omega

theorem prod_bd {x y : Int} (hx : -1073741824 ≤ x ∧ x ≤ 1073741824) (hy : -1073741824 ≤ y ∧ y ≤ 1073741824) : -1152921504606846976 ≤ x * y ∧ x * y ≤ 1152921504606846976 := by
  have h := mul_le_of (m := 1073741824) (by omega) (by omega)
    (x := x) (y := y)
  omega

end Go.Proofs.Qxb6609068a.Plain
