/-
  CONTRACTS of buildCuts, cutsOf.
-/
import Derived.Test.Qxb6609068aBuild
namespace Go.Proofs.Qxb6609068a.Small
open Go.ChangeShapes Go.WideShapes Go.ChangeAt Go.RowKit
set_option linter.unusedVariables false
attribute [local go_sem ↓] Go.wp_at_zero Go.wp_at_succ

/-- three stores fill the next element -/
theorem own_put3 {w : World} {base e g n cap m k : Nat} {T Z : Nat → Value} {v0 v1 v2 : Value} (h : w.ownsRow base e 3 (.slice (some ⟨g, 0, none⟩) n cap) n (rowOf m (part k 3 T Z)))
    (e0 : T (k * 3) = v0) (e1 : T (k * 3 + 1) = v1) (e2 : T (k * 3 + 2) = v2) :
    (((w.setCell ⟨g, k * 3, none⟩ v0).setCell ⟨g, k * 3 + 1, none⟩ v1).setCell ⟨g, k * 3 + 2, none⟩ v2).ownsRow base e 3 (.slice (some ⟨g, 0, none⟩) n cap) n (rowOf m (part (k + 1) 3 T Z)) := by
  have a := own_put (own_put (own_put h (k * 3) v0) (k * 3 + 1) v1) (k * 3 + 2) v2
  have e : rowOf m (part (k + 1) 3 T Z) = rowOf m (fun i => if i = k * 3 + 2 then v2 else if i = k * 3 + 1 then v1 else if i = k * 3 then v0 else part k 3 T Z i) := by
    apply rowOf_congr
    intro j _
    by_cases h1 : j < k * 3
    · simp only [part]
      rw [if_pos (by omega), if_neg (by omega), if_neg (by omega), if_neg (by omega), if_pos h1]
    by_cases h2 : j < k * 3 + 3
    · have hp : part (k + 1) 3 T Z j = T j := by simp only [part]; rw [if_pos (by omega)]
      rw [hp]
      rcases (by omega : j = k * 3 ∨ j = k * 3 + 1 ∨ j = k * 3 + 2) with rfl | rfl | rfl
      · rw [if_neg (by omega), if_neg (by omega), if_pos rfl, e0]
      · rw [if_neg (by omega), if_pos rfl, e1]
      · rw [if_pos rfl, e2]
    · simp only [part]
      rw [if_neg (by omega), if_neg (by omega), if_neg (by omega), if_neg (by omega), if_neg (by omega)]
  rw [e]; exact a

theorem below_put3 {B : Nat} {w wr : World} {g o0 o1 o2 : Nat} {v0 v1 v2 : Value} (h : Below B w wr) (hg : B ≤ g) :
    Below B w (((wr.setCell ⟨g, o0, none⟩ v0).setCell ⟨g, o1, none⟩ v1).setCell ⟨g, o2, none⟩ v2) := ((h.setCell hg v0).setCell hg v1).setCell hg v2

/-- cuts told by a function of the place -/
def cutT (q : Nat → Int × Int × Int) (j : Nat) : Value :=
  match j % 3 with
  | 0 => .int .i64 (q (j / 3)).1
  | 1 => .int .i64 (q (j / 3)).2.1
  | _ => .int .i64 (q (j / 3)).2.2
theorem cutT0 (q : Nat → Int × Int × Int) (k : Nat) : cutT q (k * 3) = .int .i64 (q k).1 := by
  unfold cutT; rw [show (k * 3) % 3 = 0 by omega, show (k * 3) / 3 = k by omega]; rfl
theorem cutT1 (q : Nat → Int × Int × Int) (k : Nat) : cutT q (k * 3 + 1) = .int .i64 (q k).2.1 := by
  unfold cutT; rw [show (k * 3 + 1) % 3 = 1 by omega, show (k * 3 + 1) / 3 = k by omega]; rfl
theorem cutT2 (q : Nat → Int × Int × Int) (k : Nat) : cutT q (k * 3 + 2) = .int .i64 (q k).2.2 := by
  unfold cutT; rw [show (k * 3 + 2) % 3 = 2 by omega, show (k * 3 + 2) / 3 = k by omega]; rfl

/-- the cells of a list of cuts, by place -/
theorem cutCells_rowOf (l : List (Int × Int × Int)) : cutCells l = rowOf (l.length * 3) (cutT (fun i => l.getD i (0, 0, 0))) := by
  have key : ∀ (l : List (Int × Int × Int)) (i : Nat) (h : i < l.length), (cutCells l)[i * 3]? = some (.int .i64 (l.getD i (0, 0, 0)).1) ∧ (cutCells l)[i * 3 + 1]? = some (.int .i64 (l.getD i (0, 0, 0)).2.1) ∧ (cutCells l)[i * 3 + 2]? = some (.int .i64 (l.getD i (0, 0, 0)).2.2) := by
    intro l
    induction l with
    | nil => intro i h; simp at h
    | cons c l ih =>
      intro i h
      have hc : cutCells (c :: l) = .int .i64 c.1 :: .int .i64 c.2.1 :: .int .i64 c.2.2 :: cutCells l := by simp [cutCells]
      rw [hc]
      cases i with
      | zero => simp
      | succ i =>
        have := ih i (by simpa using h)
        rw [show (i + 1) * 3 = i * 3 + 1 + 1 + 1 by omega, show i * 3 + 1 + 1 + 1 + 1 = (i * 3 + 1) + 1 + 1 + 1 by omega, show i * 3 + 1 + 1 + 1 + 2 = (i * 3 + 2) + 1 + 1 + 1 by omega]
        simpa using this
  have hlen : (cutCells l).length = l.length * 3 := by
    induction l with
    | nil => rfl
    | cons c l ih =>
      have hc : cutCells (c :: l) = .int .i64 c.1 :: .int .i64 c.2.1 :: .int .i64 c.2.2 :: cutCells l := by simp [cutCells]
      rw [hc]; simp only [List.length_cons]; omega
  apply List.ext_getElem?
  intro j
  by_cases hj : j < l.length * 3
  · rw [rowOf_get hj]
    have h3 := key l (j / 3) (by omega)
    rcases (by omega : j = j / 3 * 3 ∨ j = j / 3 * 3 + 1 ∨ j = j / 3 * 3 + 2) with e | e | e
    · rw [e, h3.1, cutT0]
    · rw [e, h3.2.1, cutT1]
    · rw [e, h3.2.2, cutT2]
  · rw [List.getElem?_eq_none (by omega), List.getElem?_eq_none (by rw [rowOf_len]; omega)]

theorem info43 : (Try.prog.info? 43).map (fun i => (i.zero, i.size, i.bytes)) = some (some (.agg #[.int .i64 0, .int .i64 0, .int .i64 0]), 3, 24) := by kernel_rfl

/-- cutsOf, of a row that is there -/
theorem cutsOf_row (g n cap : Nat) (q : Nat → Int × Int × Int) (w : World) (hn : n ≤ 65540) (hs : ∀ i, i < n → w.cell? ⟨g, i * 3, none⟩ = some (.int .i64 (q i).1) ∧ w.cell? ⟨g, i * 3 + 1, none⟩ = some (.int .i64 (q i).2.1) ∧ w.cell? ⟨g, i * 3 + 2, none⟩ = some (.int .i64 (q i).2.2)) :
    Calls Try.prog 16 #[.slice (some ⟨g, 0, none⟩) n cap] w fun e w' => e = .returned (.slice (some ⟨w.heap.size, 0, none⟩) n n) ∧
      w'.ownsRow w.heap.size 43 3 (.slice (some ⟨w.heap.size, 0, none⟩) n n) n (rowOf (n * 3) (cutT q)) ∧ Below w.heap.size w w' := by
  have HS : Hid (∀ i, i < n → w.cell? ⟨g, i * 3, none⟩ = some (.int .i64 (q i).1) ∧ w.cell? ⟨g, i * 3 + 1, none⟩ = some (.int .i64 (q i).2.1) ∧ w.cell? ⟨g, i * 3 + 2, none⟩ = some (.int .i64 (q i).2.2)) := hs
  clear hs
  obtain ⟨i0, hi0, hz0, hz1, hz2⟩ := info_parts info43
  go_enter Try.func16, Try.ntmps16
  go_wp2_with (at_make; refine wpList_make_full _ rfl _ _ 30 rfl w.heap.size 43 i0 _ 3 Try.underlying30 hi0 hz0 hz1 _ _ _ _ n rfl rfl rfl rfl (by rw [hz2]; omega) (by unfold maxLen; omega) (Nat.le_refl _) ?_; intro w1 hown1 hgrow1; have HB1 : Hid (Below w.heap.size w w1) := (Below.refl w.heap.size w).grown hgrow1 (Nat.le_refl _) (by intro k hk; cases hk); obtain ⟨Z, HO⟩ := made_hid hown1; clear hown1 hgrow1)
  go_loopw [4] (fun i wr => ∃ k : Nat, k ≤ n ∧ i = .int .i64 k ∧ Hid (wr.ownsRow w.heap.size 43 3 (.slice (some ⟨w.heap.size, 0, none⟩) n n) n (rowOf (n * 3) (part k 3 (cutT q) Z))) ∧ Hid (Below w.heap.size w wr)) (fun i _ => n - (intOf i).toNat)
  case atStart => exact ⟨0, Nat.zero_le _, rfl, by rw [part_zero]; exact HO, HB1⟩
  case round =>
    obtain ⟨k, hk, rfl, HOr, HBr⟩ := hrel
    clear HO HB1
    by_cases hlt : k < n
    · obtain ⟨c0, c1, c2⟩ := HS.out k hlt
      have c0' := cell_on HBr.out c0
      have c1' := cell_on HBr.out c1
      have c2' := cell_on HBr.out c2
      clear c0 c1 c2
      have HA : Hid ((q k).1 = (q k).1) := rfl
      obtain ⟨A, hA⟩ : ∃ A, (q k).1 = A := ⟨_, rfl⟩
      obtain ⟨X, hX⟩ : ∃ X, (q k).2.1 = X := ⟨_, rfl⟩
      obtain ⟨Y, hY⟩ : ∃ Y, (q k).2.2 = Y := ⟨_, rfl⟩
      rw [hA] at c0'
      rw [hX] at c1'
      rw [hY] at c2'
      have TA : Hid (cutT q (k * 3) = .int .i64 A) := by rw [cutT0, hA]; rfl
      have TX : Hid (cutT q (k * 3 + 1) = .int .i64 X) := by rw [cutT1, hX]; rfl
      have TY : Hid (cutT q (k * 3 + 2) = .int .i64 Y) := by rw [cutT2, hY]; rfl
      clear hA hX hY HA
      have hw1 : w.heap.size < wr.heap.size := World.block_lt_of_cell? wr ⟨w.heap.size, 0, none⟩ (own_rowOf HOr.out rfl 0 (by omega))
      have tok : True := trivial
      go_wp2_with (go_at_call 33; have _t := tok; refine (cutOf_is A X Y _).mono ?_; rintro e w1 ⟨rfl, hb1⟩; clear tok; have HOw : Hid (w1.ownsRow w.heap.size 43 3 (.slice (some ⟨w.heap.size, 0, none⟩) n n) n (rowOf (n * 3) (part k 3 (cutT q) Z))) := own_on HOr.out hb1; have z0 := own_rowOf HOw.out rfl (k * 3) (by omega); have z1 := own_rowOf HOw.out rfl (k * 3 + 1) (by omega); have z2 := own_rowOf HOw.out rfl (k * 3 + 2) (by omega); have f0 := HOw.out.frozenAt (k * 3); have f1 := HOw.out.frozenAt (k * 3 + 1); have f2 := HOw.out.frozenAt (k * 3 + 2))
      go_roundw
      case rel => exact ⟨k + 1, by omega, by go_num, own_put3 HOw.out TA.out TX.out TY.out, below_put3 (bthen HBr.out hb1) (Nat.le_refl _)⟩
      case measure => simp [intOf]; omega
    · obtain rfl : k = n := by omega
      go_wp2
      go_ret
      exact ⟨rfl, by rw [part_done (k := k) (size := 3) _ _ rfl] at HOr; exact HOr.out, HBr.out⟩

/-- a row of no cuts -/
theorem cutsOf_empty (a : Option Addr) (cap : Nat) (q : Nat → Int × Int × Int) (w : World) :
    Calls Try.prog 16 #[.slice a 0 cap] w fun e w' => e = .returned (.slice (some ⟨w.heap.size, 0, none⟩) 0 0) ∧
      w'.ownsRow w.heap.size 43 3 (.slice (some ⟨w.heap.size, 0, none⟩) 0 0) 0 (rowOf (0 * 3) (cutT q)) ∧ Below w.heap.size w w' := by
  obtain ⟨i0, hi0, hz0, hz1, hz2⟩ := info_parts info43
  go_enter Try.func16, Try.ntmps16
  go_wp2_with (at_make; refine wpList_make_full _ rfl _ _ 30 rfl w.heap.size 43 i0 _ 3 Try.underlying30 hi0 hz0 hz1 _ _ _ _ 0 rfl rfl rfl rfl (by omega) (by unfold maxLen; omega) (Nat.le_refl _) ?_; intro w1 hown1 hgrow1; have HB1 : Hid (Below w.heap.size w w1) := (Below.refl w.heap.size w).grown hgrow1 (Nat.le_refl _) (by intro k hk; cases hk); obtain ⟨Z, HO⟩ := made_hid hown1; clear hown1 hgrow1)
  go_loopw [4] (fun i wr => i = .int .i64 0 ∧ Hid (wr.ownsRow w.heap.size 43 3 (.slice (some ⟨w.heap.size, 0, none⟩) 0 0) 0 (rowOf (0 * 3) Z)) ∧ Hid (Below w.heap.size w wr)) (fun i _ => 0)
  case atStart => exact ⟨rfl, HO, HB1⟩
  case round =>
    obtain ⟨rfl, HOr, HBr⟩ := hrel
    go_wp2
    go_ret
    exact ⟨rfl, HOr.out, HBr.out⟩

/-- buildCuts, of a row that came in -/
theorem buildCuts_row (b o n c : Nat) (q : Nat → Int × Int × Int) (w : World) (hn : n ≤ 16384) (hs : ∀ i, i < n → w.cell? ⟨b, o + i * 3, none⟩ = some (.int .i64 (q i).1) ∧ w.cell? ⟨b, o + i * 3 + 1, none⟩ = some (.int .i64 (q i).2.1) ∧ w.cell? ⟨b, o + i * 3 + 2, none⟩ = some (.int .i64 (q i).2.2)) :
    Calls Try.prog 15 #[.slice (some ⟨b, o, none⟩) n c] w fun e w' => e = .returned (.slice (some ⟨w.heap.size, 0, none⟩) n n) ∧
      w'.ownsRow w.heap.size 66 3 (.slice (some ⟨w.heap.size, 0, none⟩) n n) n (rowOf (n * 3) (cutT q)) ∧ Below w.heap.size w w' := by
  have HS : Hid (∀ i, i < n → w.cell? ⟨b, o + i * 3, none⟩ = some (.int .i64 (q i).1) ∧ w.cell? ⟨b, o + i * 3 + 1, none⟩ = some (.int .i64 (q i).2.1) ∧ w.cell? ⟨b, o + i * 3 + 2, none⟩ = some (.int .i64 (q i).2.2)) := hs
  clear hs
  obtain ⟨i0, hi0, hz0, hz1, hz2⟩ := info_parts info66
  go_enter Try.func15, Try.ntmps15
  go_wp2_with (at_make; refine wpList_make_full _ rfl _ _ 38 rfl w.heap.size 66 i0 _ 3 Try.underlying38 hi0 hz0 hz1 _ _ _ _ n rfl rfl rfl rfl (by rw [hz2]; omega) (by unfold maxLen; omega) (Nat.le_refl _) ?_; intro w1 hown1 hgrow1; have HB1 : Hid (Below w.heap.size w w1) := (Below.refl w.heap.size w).grown hgrow1 (Nat.le_refl _) (by intro k hk; cases hk); obtain ⟨Z, HO⟩ := made_hid hown1; clear hown1 hgrow1)
  go_loopw [4] (fun i wr => ∃ k : Nat, k ≤ n ∧ i = .int .i64 k ∧ Hid (wr.ownsRow w.heap.size 66 3 (.slice (some ⟨w.heap.size, 0, none⟩) n n) n (rowOf (n * 3) (part k 3 (cutT q) Z))) ∧ Hid (Below w.heap.size w wr)) (fun i _ => n - (intOf i).toNat)
  case atStart => exact ⟨0, Nat.zero_le _, rfl, by rw [part_zero]; exact HO, HB1⟩
  case round =>
    obtain ⟨k, hk, rfl, HOr, HBr⟩ := hrel
    clear HO HB1
    by_cases hlt : k < n
    · obtain ⟨c0, c1, c2⟩ := HS.out k hlt
      have c0' := cell_on HBr.out c0
      have c1' := cell_on HBr.out c1
      have c2' := cell_on HBr.out c2
      have hbw : b < w.heap.size := World.block_lt_of_cell? w _ c0
      clear c0 c1 c2
      obtain ⟨A, hA⟩ : ∃ A, (q k).1 = A := ⟨_, rfl⟩
      obtain ⟨X, hX⟩ : ∃ X, (q k).2.1 = X := ⟨_, rfl⟩
      obtain ⟨Y, hY⟩ : ∃ Y, (q k).2.2 = Y := ⟨_, rfl⟩
      rw [hA] at c0'
      rw [hX] at c1'
      rw [hY] at c2'
      have TA : Hid (cutT q (k * 3) = .int .i64 A) := by rw [cutT0, hA]; rfl
      have TX : Hid (cutT q (k * 3 + 1) = .int .i64 X) := by rw [cutT1, hX]; rfl
      have TY : Hid (cutT q (k * 3 + 2) = .int .i64 Y) := by rw [cutT2, hY]; rfl
      clear hA hX hY
      have hw1 : w.heap.size < wr.heap.size := World.block_lt_of_cell? wr ⟨w.heap.size, 0, none⟩ (own_rowOf HOr.out rfl 0 (by omega))
      have hbr : b < wr.heap.size := by omega
      have hne : ¬ w.heap.size = b := by omega
      have hne' : ¬ b = w.heap.size := by omega
      have z0 := own_rowOf HOr.out rfl (k * 3) (by omega)
      have z1 := own_rowOf HOr.out rfl (k * 3 + 1) (by omega)
      have z2 := own_rowOf HOr.out rfl (k * 3 + 2) (by omega)
      have f0 := HOr.out.frozenAt (k * 3)
      have f1 := HOr.out.frozenAt (k * 3 + 1)
      have f2 := HOr.out.frozenAt (k * 3 + 2)
      have k1 : (k : Int) < (n : Int) := by omega
      go_wp2_with fail
      go_region_held3 (fun w' => w'.cell? ⟨b, o + k * 3, none⟩ = some (.int .i64 A) ∧ w'.cell? ⟨b, o + k * 3 + 1, none⟩ = some (.int .i64 X) ∧ w'.cell? ⟨b, o + k * 3 + 2, none⟩ = some (.int .i64 Y))
        (go_keep)
        (first | (go_at_call 32; refine (newCut_is A X Y _).mono ?_; rintro e w' ⟨rfl, rfl⟩))
      go_wp2
      go_roundw
      case rel => exact ⟨k + 1, by omega, by go_num, ((own_put3 HOr.out TA.out TX.out TY.out).alloc _).drew, ((below_put3 HBr.out (Nat.le_refl _)).alloc (by simp [World.setCell]; omega) _).drew⟩
      case measure => simp [intOf]; omega
    · obtain rfl : k = n := by omega
      go_wp2
      go_ret
      exact ⟨rfl, by rw [part_done (k := k) (size := 3) _ _ rfl] at HOr; exact HOr.out, HBr.out⟩

end Go.Proofs.Qxb6609068a.Small
