/-
  CONTRACTS of buildEdges, buildCuts, cutsOf.
-/
import Derived.Test.Qxb6609068aOwn
import Derived.Deep.RegionHeld3
import Derived.Deep.DrawnRows
import Derived.Deep.QuietTactic
import Derived.BigQuiet
import Derived.Deep.Light
namespace Go.Proofs.Qxb6609068a.Small
open Go.ChangeShapes Go.WideShapes Go.ChangeAt Go.RowKit
set_option linter.unusedVariables false
attribute [local go_sem ↓] Go.wp_at_zero Go.wp_at_succ

/-- a float is stored as any number is -/
theorem run_store_float (P : Program) (w : World) (a : Addr) (m : Mode) (k : FloatKind) (b : Nat) : (store a (.float k b) m).run P w = stored P w a (.float k b) m := run_store P w a _ m rfl
attribute [local go_sem] run_store_float

/-! ### a row told by a function of the place -/
def rowOf (m : Nat) (F : Nat → Value) : List Value := (List.range m).map F

theorem rowOf_get {m : Nat} {F : Nat → Value} {j : Nat} (h : j < m) : (rowOf m F)[j]? = some (F j) := by simp [rowOf, List.getElem?_range h]
theorem rowOf_len (m : Nat) (F : Nat → Value) : (rowOf m F).length = m := by simp [rowOf]
theorem rowOf_congr {m : Nat} {F G : Nat → Value} (h : ∀ j, j < m → F j = G j) : rowOf m F = rowOf m G := by
  apply List.map_congr_left
  intro j hj
  exact h j (List.mem_range.mp hj)
theorem rowOf_set (m : Nat) (F : Nat → Value) (j : Nat) (u : Value) : (rowOf m F).set j u = rowOf m (fun i => if i = j then u else F i) := by
  apply List.ext_getElem?
  intro i
  by_cases hi : i < m
  · rw [rowOf_get hi, List.getElem?_set, rowOf_len]
    by_cases e : j = i
    · subst e; simp [hi]
    · have e' : ¬ i = j := fun h => e h.symm
      simp [e, e', rowOf_get hi]
  · have l1 : ((rowOf m F).set j u).length = m := by simp [rowOf]
    rw [List.getElem?_eq_none (by omega), List.getElem?_eq_none (by rw [rowOf_len]; omega)]

theorem own_rowOf {w : World} {base e size g n cap m : Nat} {F : Nat → Value} (h : w.ownsRow base e size (.slice (some ⟨g, 0, none⟩) n cap) n (rowOf m F)) (hm : m = n * size) (j : Nat) (hj : j < m) : w.cell? ⟨g, j, none⟩ = some (F j) := by
  rw [h.cellAt j (by omega), rowOf_get hj]

theorem own_put {w : World} {base e size g n cap m : Nat} {F : Nat → Value} (h : w.ownsRow base e size (.slice (some ⟨g, 0, none⟩) n cap) n (rowOf m F)) (j : Nat) (u : Value) :
    (w.setCell ⟨g, j, none⟩ u).ownsRow base e size (.slice (some ⟨g, 0, none⟩) n cap) n (rowOf m (fun i => if i = j then u else F i)) := by
  have := (h.stored j u).1
  rw [rowOf_set] at this
  exact this

/-- what 'make' lays -/
theorem made_rowOf (z : Array Value) (m : Nat) : (madeCells z m).toList = rowOf m (fun j => z[j % z.size]!) := by
  simp [madeCells, rowOf]

/-! ### the makers and readers -/
theorem newEdge_is (ax ay bx by' rg ix : Int) (t0 t1 : Nat) (w : World) :
    Calls Try.prog 31 #[.int .i64 ax, .int .i64 ay, .int .i64 bx, .int .i64 by', .int .i64 rg, .int .i64 ix, .float .f64 t0, .float .f64 t1] w fun e w' =>
      e = .returned (.agg #[.int .i64 ax, .int .i64 ay, .int .i64 bx, .int .i64 by', .int .i64 rg, .int .i64 ix, .float .f64 t0, .float .f64 t1]) ∧
      w' = w.alloc (.cells #[.int .i64 ax, .int .i64 ay, .int .i64 bx, .int .i64 by', .int .i64 rg, .int .i64 ix, .float .f64 t0, .float .f64 t1] 63) := by
  go_enter Try.func31, Try.ntmps31
  go_wp2
  exact bodyPost_ret (v := .agg #[.int .i64 ax, .int .i64 ay, .int .i64 bx, .int .i64 by', .int .i64 rg, .int .i64 ix, .float .f64 t0, .float .f64 t1]) (by simp [results, Try.results31, go_sem]) rfl ⟨rfl, rfl⟩

theorem newCut_is (e x y : Int) (w : World) :
    Calls Try.prog 32 #[.int .i64 e, .int .i64 x, .int .i64 y] w fun e' w' => e' = .returned (.agg #[.int .i64 e, .int .i64 x, .int .i64 y]) ∧ w' = w.alloc (.cells #[.int .i64 e, .int .i64 x, .int .i64 y] 66) := by
  go_enter Try.func32, Try.ntmps32
  go_wp2
  exact bodyPost_ret (v := .agg #[.int .i64 e, .int .i64 x, .int .i64 y]) (by simp [results, Try.results32, go_sem]) rfl ⟨rfl, rfl⟩

theorem cutOf_is (e x y : Int) (w : World) :
    Calls Try.prog 33 #[.agg #[.int .i64 e, .int .i64 x, .int .i64 y]] w fun e' w' => e' = .returned (.tuple #[.int .i64 e, .int .i64 x, .int .i64 y]) ∧ Below w.heap.size w w' := by
  go_enter Try.func33, Try.ntmps33
  go_wp2_with fail
  go_quiet (fail)
  go_wp2
  go_ret3
  exact ⟨rfl, below_drewN ((Below.refl _ _).alloc (Nat.le_refl _) _) nq⟩

/-! ### the rows that come in -/
structure Segs where
  ax : Nat → Int
  ay : Nat → Int
  bx : Nat → Int
  by' : Nat → Int
  rg : Nat → Int
  ix : Nat → Int
  t0 : Nat → Nat
  t1 : Nat → Nat

/-- segment i, in a row that begins at place o of block b -/
def SegAt (w : World) (b o : Nat) (s : Segs) (i : Nat) : Prop :=
  w.cell? ⟨b, o + i * 8, none⟩ = some (.int .i64 (s.ax i)) ∧ w.cell? ⟨b, o + i * 8 + 1, none⟩ = some (.int .i64 (s.ay i)) ∧ w.cell? ⟨b, o + i * 8 + 2, none⟩ = some (.int .i64 (s.bx i)) ∧ w.cell? ⟨b, o + i * 8 + 3, none⟩ = some (.int .i64 (s.by' i)) ∧ w.cell? ⟨b, o + i * 8 + 4, none⟩ = some (.int .i64 (s.rg i)) ∧ w.cell? ⟨b, o + i * 8 + 5, none⟩ = some (.int .i64 (s.ix i)) ∧ w.cell? ⟨b, o + i * 8 + 6, none⟩ = some (.float .f64 (s.t0 i)) ∧ w.cell? ⟨b, o + i * 8 + 7, none⟩ = some (.float .f64 (s.t1 i))

theorem SegAt.on {w w' : World} {b o : Nat} {s : Segs} {i : Nat} (h : SegAt w b o s i) (hb : Below w.heap.size w w') : SegAt w' b o s i := by
  obtain ⟨h0, h1, h2, h3, h4, h5, h6, h7⟩ := h
  exact ⟨cell_on hb h0, cell_on hb h1, cell_on hb h2, cell_on hb h3, cell_on hb h4, cell_on hb h5, cell_on hb h6, cell_on hb h7⟩

/-- the cells of the edges that are built -/
def edgeT (s : Segs) (tx ty : Int) (j : Nat) : Value :=
  match j % 8 with
  | 0 => .int .i64 (wrap64 (s.ax (j / 8) + tx))
  | 1 => .int .i64 (wrap64 (s.ay (j / 8) + ty))
  | 2 => .int .i64 (wrap64 (s.bx (j / 8) + tx))
  | 3 => .int .i64 (wrap64 (s.by' (j / 8) + ty))
  | 4 => .int .i64 (s.rg (j / 8))
  | 5 => .int .i64 (s.ix (j / 8))
  | 6 => .float .f64 (s.t0 (j / 8))
  | _ => .float .f64 (s.t1 (j / 8))

theorem edgeT0 (s : Segs) (tx ty : Int) (k : Nat) : edgeT s tx ty (k * 8) = .int .i64 (wrap64 (s.ax k + tx)) := by
  unfold edgeT; rw [show (k * 8) % 8 = 0 by omega, show (k * 8) / 8 = k by omega]; rfl
theorem edgeT1 (s : Segs) (tx ty : Int) (k : Nat) : edgeT s tx ty (k * 8 + 1) = .int .i64 (wrap64 (s.ay k + ty)) := by
  unfold edgeT; rw [show (k * 8 + 1) % 8 = 1 by omega, show (k * 8 + 1) / 8 = k by omega]; rfl
theorem edgeT2 (s : Segs) (tx ty : Int) (k : Nat) : edgeT s tx ty (k * 8 + 2) = .int .i64 (wrap64 (s.bx k + tx)) := by
  unfold edgeT; rw [show (k * 8 + 2) % 8 = 2 by omega, show (k * 8 + 2) / 8 = k by omega]; rfl
theorem edgeT3 (s : Segs) (tx ty : Int) (k : Nat) : edgeT s tx ty (k * 8 + 3) = .int .i64 (wrap64 (s.by' k + ty)) := by
  unfold edgeT; rw [show (k * 8 + 3) % 8 = 3 by omega, show (k * 8 + 3) / 8 = k by omega]; rfl
theorem edgeT4 (s : Segs) (tx ty : Int) (k : Nat) : edgeT s tx ty (k * 8 + 4) = .int .i64 (s.rg k) := by
  unfold edgeT; rw [show (k * 8 + 4) % 8 = 4 by omega, show (k * 8 + 4) / 8 = k by omega]; rfl
theorem edgeT5 (s : Segs) (tx ty : Int) (k : Nat) : edgeT s tx ty (k * 8 + 5) = .int .i64 (s.ix k) := by
  unfold edgeT; rw [show (k * 8 + 5) % 8 = 5 by omega, show (k * 8 + 5) / 8 = k by omega]; rfl
theorem edgeT6 (s : Segs) (tx ty : Int) (k : Nat) : edgeT s tx ty (k * 8 + 6) = .float .f64 (s.t0 k) := by
  unfold edgeT; rw [show (k * 8 + 6) % 8 = 6 by omega, show (k * 8 + 6) / 8 = k by omega]; rfl
theorem edgeT7 (s : Segs) (tx ty : Int) (k : Nat) : edgeT s tx ty (k * 8 + 7) = .float .f64 (s.t1 k) := by
  unfold edgeT; rw [show (k * 8 + 7) % 8 = 7 by omega, show (k * 8 + 7) / 8 = k by omega]; rfl

theorem below_put8 {B : Nat} {w wr : World} {g o0 o1 o2 o3 o4 o5 o6 o7 : Nat} {v0 v1 v2 v3 v4 v5 v6 v7 : Value} (h : Below B w wr) (hg : B ≤ g) :
    Below B w ((((((((wr.setCell ⟨g, o0, none⟩ v0).setCell ⟨g, o1, none⟩ v1).setCell ⟨g, o2, none⟩ v2).setCell ⟨g, o3, none⟩ v3).setCell ⟨g, o4, none⟩ v4).setCell ⟨g, o5, none⟩ v5).setCell ⟨g, o6, none⟩ v6).setCell ⟨g, o7, none⟩ v7) :=
  (((((((h.setCell hg v0).setCell hg v1).setCell hg v2).setCell hg v3).setCell hg v4).setCell hg v5).setCell hg v6).setCell hg v7

theorem info63 : (Try.prog.info? 63).map (fun i => (i.zero, i.size, i.bytes)) = some (some (.agg #[.int .i64 0, .int .i64 0, .int .i64 0, .int .i64 0, .int .i64 0, .int .i64 0, .float .f64 0, .float .f64 0]), 8, 64) := by kernel_rfl

/-- the row while it is filled: k elements of 'size' cells are done -/
def part (k size : Nat) (T Z : Nat → Value) (j : Nat) : Value := if j < k * size then T j else Z j

theorem made_hid {w : World} {base e size n m : Nat} {v : Value} {z : Array Value} (h : w.ownsRow base e size v n (madeCells z m).toList) : ∃ Z, Hid (w.ownsRow base e size v n (rowOf m Z)) :=
  ⟨_, by rw [made_rowOf] at h; exact h⟩

theorem part_zero (size : Nat) (T Z : Nat → Value) : part 0 size T Z = Z := by
  funext j; simp [part]

theorem part_done {k size m : Nat} (T Z : Nat → Value) (h : m = k * size) : rowOf m (part k size T Z) = rowOf m T :=
  rowOf_congr fun j hj => by simp only [part]; rw [if_pos (by omega)]

/-- eight stores fill the next element -/
theorem own_put8 {w : World} {base e g n cap m k : Nat} {T Z : Nat → Value} {v0 v1 v2 v3 v4 v5 v6 v7 : Value} (h : w.ownsRow base e 8 (.slice (some ⟨g, 0, none⟩) n cap) n (rowOf m (part k 8 T Z)))
    (e0 : T (k * 8) = v0) (e1 : T (k * 8 + 1) = v1) (e2 : T (k * 8 + 2) = v2) (e3 : T (k * 8 + 3) = v3) (e4 : T (k * 8 + 4) = v4) (e5 : T (k * 8 + 5) = v5) (e6 : T (k * 8 + 6) = v6) (e7 : T (k * 8 + 7) = v7) :
    ((((((((w.setCell ⟨g, k * 8, none⟩ v0).setCell ⟨g, k * 8 + 1, none⟩ v1).setCell ⟨g, k * 8 + 2, none⟩ v2).setCell ⟨g, k * 8 + 3, none⟩ v3).setCell ⟨g, k * 8 + 4, none⟩ v4).setCell ⟨g, k * 8 + 5, none⟩ v5).setCell ⟨g, k * 8 + 6, none⟩ v6).setCell ⟨g, k * 8 + 7, none⟩ v7).ownsRow
      base e 8 (.slice (some ⟨g, 0, none⟩) n cap) n (rowOf m (part (k + 1) 8 T Z)) := by
  have a := own_put (own_put (own_put (own_put (own_put (own_put (own_put (own_put h (k * 8) v0) (k * 8 + 1) v1) (k * 8 + 2) v2) (k * 8 + 3) v3) (k * 8 + 4) v4) (k * 8 + 5) v5) (k * 8 + 6) v6) (k * 8 + 7) v7
  have e : rowOf m (part (k + 1) 8 T Z) = rowOf m (fun i => if i = k * 8 + 7 then v7 else if i = k * 8 + 6 then v6 else if i = k * 8 + 5 then v5 else if i = k * 8 + 4 then v4 else if i = k * 8 + 3 then v3 else if i = k * 8 + 2 then v2 else if i = k * 8 + 1 then v1 else if i = k * 8 then v0 else part k 8 T Z i) := by
    apply rowOf_congr
    intro j _
    by_cases h1 : j < k * 8
    · simp only [part]
      rw [if_pos (by omega), if_neg (by omega), if_neg (by omega), if_neg (by omega), if_neg (by omega), if_neg (by omega), if_neg (by omega), if_neg (by omega), if_neg (by omega), if_pos h1]
    by_cases h2 : j < k * 8 + 8
    · have hp : part (k + 1) 8 T Z j = T j := by simp only [part]; rw [if_pos (by omega)]
      rw [hp]
      rcases (by omega : j = k * 8 ∨ j = k * 8 + 1 ∨ j = k * 8 + 2 ∨ j = k * 8 + 3 ∨ j = k * 8 + 4 ∨ j = k * 8 + 5 ∨ j = k * 8 + 6 ∨ j = k * 8 + 7) with rfl | rfl | rfl | rfl | rfl | rfl | rfl | rfl
      · rw [if_neg (by omega), if_neg (by omega), if_neg (by omega), if_neg (by omega), if_neg (by omega), if_neg (by omega), if_neg (by omega), if_pos rfl, e0]
      · rw [if_neg (by omega), if_neg (by omega), if_neg (by omega), if_neg (by omega), if_neg (by omega), if_neg (by omega), if_pos rfl, e1]
      · rw [if_neg (by omega), if_neg (by omega), if_neg (by omega), if_neg (by omega), if_neg (by omega), if_pos rfl, e2]
      · rw [if_neg (by omega), if_neg (by omega), if_neg (by omega), if_neg (by omega), if_pos rfl, e3]
      · rw [if_neg (by omega), if_neg (by omega), if_neg (by omega), if_pos rfl, e4]
      · rw [if_neg (by omega), if_neg (by omega), if_pos rfl, e5]
      · rw [if_neg (by omega), if_pos rfl, e6]
      · rw [if_pos rfl, e7]
    · simp only [part]
      rw [if_neg (by omega), if_neg (by omega), if_neg (by omega), if_neg (by omega), if_neg (by omega), if_neg (by omega), if_neg (by omega), if_neg (by omega), if_neg (by omega), if_neg (by omega)]
  rw [e]; exact a

set_option maxRecDepth 100000 in
set_option maxHeartbeats 2000000 in
theorem buildEdges_is (b o n c : Nat) (s : Segs) (tx ty : Int) (w : World) (hn : n ≤ 8192) (hs : ∀ i, i < n → SegAt w b o s i) :
    Calls Try.prog 14 #[.slice (some ⟨b, o, none⟩) n c, .int .i64 tx, .int .i64 ty] w fun e w' => ∃ g, e = .returned (.slice (some ⟨g, 0, none⟩) n n) ∧
      w'.ownsRow w.heap.size 63 8 (.slice (some ⟨g, 0, none⟩) n n) n (rowOf (n * 8) (edgeT s tx ty)) ∧ Below w.heap.size w w' := by
  have HS : Hid (∀ i, i < n → SegAt w b o s i) := hs
  clear hs
  obtain ⟨i0, hi0, hz0, hz1, hz2⟩ := info_parts info63
  go_enter Try.func14, Try.ntmps14
  go_wp2_with (at_make; refine wpList_make_full _ rfl _ _ 36 rfl w.heap.size 63 i0 _ 8 Try.underlying36 hi0 hz0 hz1 _ _ _ _ n rfl rfl rfl rfl (by rw [hz2]; omega) (by unfold maxLen; omega) (Nat.le_refl _) ?_; intro w1 hown1 hgrow1; have HB1 : Hid (Below w.heap.size w w1) := (Below.refl w.heap.size w).grown hgrow1 (Nat.le_refl _) (by intro k hk; cases hk); obtain ⟨Z, HO⟩ := made_hid hown1; clear hown1 hgrow1)
  go_loopw [8] (fun i wr => ∃ k : Nat, k ≤ n ∧ i = .int .i64 k ∧ Hid (wr.ownsRow w.heap.size 63 8 (.slice (some ⟨w.heap.size, 0, none⟩) n n) n (rowOf (n * 8) (part k 8 (edgeT s tx ty) Z))) ∧ Hid (Below w.heap.size w wr)) (fun i _ => n - (intOf i).toNat)
  case atStart => exact ⟨0, Nat.zero_le _, rfl, by rw [part_zero]; exact HO, HB1⟩
  case round =>
    obtain ⟨k, hk, rfl, HOr, HBr⟩ := hrel
    clear HO HB1
    by_cases hlt : k < n
    · obtain ⟨c0, c1, c2, c3, c4, c5, c6, c7⟩ := (HS.out k hlt).on HBr.out
      have hw1 : w.heap.size < wr.heap.size := World.block_lt_of_cell? wr ⟨w.heap.size, 0, none⟩ (own_rowOf HOr.out rfl 0 (by omega))
      have z0 := own_rowOf HOr.out rfl (k * 8) (by omega)
      have z1 := own_rowOf HOr.out rfl (k * 8 + 1) (by omega)
      have z2 := own_rowOf HOr.out rfl (k * 8 + 2) (by omega)
      have z3 := own_rowOf HOr.out rfl (k * 8 + 3) (by omega)
      have z4 := own_rowOf HOr.out rfl (k * 8 + 4) (by omega)
      have z5 := own_rowOf HOr.out rfl (k * 8 + 5) (by omega)
      have z6 := own_rowOf HOr.out rfl (k * 8 + 6) (by omega)
      have z7 := own_rowOf HOr.out rfl (k * 8 + 7) (by omega)
      have f0 := HOr.out.frozenAt (k * 8)
      have f1 := HOr.out.frozenAt (k * 8 + 1)
      have f2 := HOr.out.frozenAt (k * 8 + 2)
      have f3 := HOr.out.frozenAt (k * 8 + 3)
      have f4 := HOr.out.frozenAt (k * 8 + 4)
      have f5 := HOr.out.frozenAt (k * 8 + 5)
      have f6 := HOr.out.frozenAt (k * 8 + 6)
      have f7 := HOr.out.frozenAt (k * 8 + 7)
      go_wp2_with (go_at_call 31; refine (newEdge_is _ _ _ _ _ _ _ _ _).mono ?_; rintro e w' ⟨rfl, rfl⟩)
      go_roundw
      case rel => exact ⟨k + 1, by omega, by go_num, ((own_put8 HOr.out (edgeT0 s tx ty k) (edgeT1 s tx ty k) (edgeT2 s tx ty k) (edgeT3 s tx ty k) (edgeT4 s tx ty k) (edgeT5 s tx ty k) (edgeT6 s tx ty k) (edgeT7 s tx ty k)).alloc _).alloc _, ((below_put8 HBr.out (Nat.le_refl _)).alloc (by simp [World.setCell]; omega) _).alloc (by simp [World.setCell]; omega) _⟩
      case measure => simp [intOf]; omega
    · obtain rfl : k = n := by omega
      go_wp2
      go_ret
      exact ⟨w.heap.size, rfl, by rw [part_done (k := k) (size := 8) _ _ rfl] at HOr; exact HOr.out, HBr.out⟩

end Go.Proofs.Qxb6609068a.Small
