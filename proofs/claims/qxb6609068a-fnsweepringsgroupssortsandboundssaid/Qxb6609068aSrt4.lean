/-
  sort.order2_func, sort.median_func, sort.medianAdjacent_func, sort.choosePivot_func, with a 'less' that lays blocks.
-/
import Derived.Test.Qxb6609068aSrt3
namespace Go.Proofs.Qxb6609068a.Srt
open Go.Shelf Go.RowKit Go.Lib Go.Sort
set_option linter.unusedVariables false
set_option linter.unusedSimpArgs false
variable {α : Type} [Inhabited α] {enc : α → Value} {lt : α → α → Bool} {lb : Array Value} {sf : Nat} {sb : Array Value} {blk off size : Nat} {w0 : World}

/-- all that lay outside the row and the counter lies there still -/
structure KeptC (blk c : Nat) (W W' : World) : Prop where
  size : W.heap.size ≤ W'.heap.size
  block : ∀ b, b < W.heap.size → b ≠ blk → b ≠ c → W'.heap[b]? = W.heap[b]?

theorem KeptC.trans {blk c : Nat} {A B C : World} (h : KeptC blk c A B) (k : KeptC blk c B C) : KeptC blk c A C :=
  ⟨Nat.le_trans h.size k.size, fun b hb hn hm => (k.block b (Nat.lt_of_lt_of_le hb h.size) hn hm).trans (h.block b hb hn hm)⟩
theorem Kept.toC {blk : Nat} {A B : World} (h : Kept blk A B) (c : Nat) : KeptC blk c A B := ⟨h.size, fun b hb hn _ => h.block b hb hn⟩
theorem KeptC.cell {blk c : Nat} {A B : World} (h : KeptC blk c A B) {b o : Nat} {v : Value} (hc : A.cell? ⟨b, o, none⟩ = some v) (hn : b ≠ blk) (hm : b ≠ c) : B.cell? ⟨b, o, none⟩ = some v := by
  rw [World.cell?_of_block (h.block b (World.block_lt_of_cell? A _ hc) hn hm)]; exact hc
theorem KeptC.ofAlloc {blk c : Nat} {A B : World} {o : Obj} (h : KeptC blk c (A.alloc o) B) : KeptC blk c A B := (((Kept.refl blk A).alloc o).toC c).trans h
theorem keptC_set (W : World) (blk c o : Nat) (v : Value) : KeptC blk c W (W.setCell ⟨c, o, none⟩ v) :=
  ⟨by simp, fun b _ _ hm => heap_setCell_other W _ b v hm⟩
/-- where the counter is new, all that was old is kept -/
theorem KeptC.drop {blk c : Nat} {A B : World} (h : KeptC blk c A B) (hc : A.heap.size ≤ c) : Kept blk A B := ⟨h.size, fun b hb hn => h.block b hb hn (by omega)⟩

/-- the counter, and what it holds -/
def Cnt (c s : Nat) (W : World) : Prop := W.cell? ⟨c, 0, none⟩ = some (.int .i64 s) ∧ W.frozen? ⟨c, 0, none⟩ = false

theorem Cnt.kept {c s blk : Nat} {A B : World} (h : Cnt c s A) (k : Kept blk A B) (hn : c ≠ blk) : Cnt c s B :=
  ⟨k.cell h.1 hn, by rw [World.frozen?_of_block (k.block c (World.block_lt_of_cell? A _ h.1) hn)]; exact h.2⟩
theorem Cnt.inb {c s : Nat} {W : World} (h : Cnt c s W) : c < W.heap.size := World.block_lt_of_cell? W _ h.1
theorem Cnt.bump {c s t : Nat} {W : World} (h : Cnt c s W) : Cnt c t (W.setCell ⟨c, 0, none⟩ (.int .i64 t)) :=
  ⟨World.cell?_setCell_same' _ _ _ (by rw [h.1]; rfl), by rw [World.frozen?_setCell]; exact h.2⟩

theorem box_atC (lb : Array Value) (sf : Nat) (sb : Array Value) {blk c : Nat} {W W' : World} (h : KeptC blk c (W.alloc (datB lb sf sb)) W') (hlt : blk < W.heap.size) (hc : c < W.heap.size) :
    W'.cell? ⟨W.heap.size, 0, none⟩ = some (.func (.func 49) #[] lb) ∧ W'.cell? ⟨W.heap.size, 1, none⟩ = some (.func (.func sf) #[] sb) :=
  ⟨h.cell (cell_of_row _ _ 0 _ _ _ (heap_alloc_new W _)) (by omega) (by omega), h.cell (cell_of_row _ _ 1 _ _ _ (heap_alloc_new W _)) (by omega) (by omega)⟩

set_option maxHeartbeats 2000000 in
set_option maxRecDepth 100000 in
theorem order2_is (C : Ctx enc lt lb sf sb blk off size w0) (a b c s : Nat) {x y : Int} (hx : x = (a : Int)) (hy : y = (b : Int)) (d : Array α) (hd : d.size = size) (W : World) (hW : SW enc w0 blk off d W) (ha : a < size) (hb : b < size) (hc : Cnt c s W) (hc0 : w0.heap.size ≤ c) (hs : s ≤ 1000) :
    Calls Try.prog 81 #[dat lb sf sb, .int .i64 x, .int .i64 y, .pointer (some ⟨c, 0, none⟩)] W fun e w' => e = .returned (.tuple #[.int .i64 ((order2 lt d a b s).1 : Int), .int .i64 ((order2 lt d a b s).2.1 : Int)]) ∧ Hid (SW enc w0 blk off d w') ∧ Hid (KeptC blk c W w') ∧ Hid (Cnt c (order2 lt d a b s).2.2 w') := by
  subst hx; subst hy
  have hsz := C.hsz
  have hlt := C.le hW
  have hbl := C.hblk
  have HC : Hid (Ctx enc lt lb sf sb blk off size w0) := C
  have HW : Hid (SW enc w0 blk off d W) := hW
  have HN : Hid (Cnt c s W) := hc
  have hcl := hc.inb
  clear C hW hc
  have eg := eg49
  cases hlv : lt d[b]! d[a]! with
  | true =>
    have e1 : order2 lt d a b s = (b, a, s + 1) := by unfold order2; rw [if_pos hlv]
    rw [e1]
    go_enter Try.func81, Try.ntmps81
    go_wp2_with (go_at_fn 49; refine (HC.out.lessI (HW.out.alloc _) hd b a rfl rfl (by omega) (by omega) hlv).mono ?_; rintro e w1 ⟨rfl, HS1, HK1⟩; have HN1 : Hid (Cnt c s w1) := (HN.out.kept ((Kept.refl blk W).alloc _) (by omega)).kept HK1.out (by omega); have n0 := HN1.out.1; have n1 := HN1.out.2)
    go_ret2
    exact ⟨rfl, HS1.out.setCell_new c 0 _ hc0, (HK1.out.ofAlloc.toC c).trans (keptC_set _ _ _ _ _), HN1.out.bump⟩
  | false =>
    have e1 : order2 lt d a b s = (a, b, s) := by unfold order2; rw [if_neg (by simp [hlv])]
    rw [e1]
    go_enter Try.func81, Try.ntmps81
    go_wp2_with (go_at_fn 49; refine (HC.out.lessI (HW.out.alloc _) hd b a rfl rfl (by omega) (by omega) hlv).mono ?_; rintro e w1 ⟨rfl, HS1, HK1⟩)
    go_ret2
    exact ⟨rfl, HS1, HK1.out.ofAlloc.toC c, (HN.out.kept ((Kept.refl blk W).alloc _) (by omega)).kept HK1.out (by omega)⟩

theorem order2_lt {d : Array α} {a b s n : Nat} (ha : a < n) (hb : b < n) : (order2 lt d a b s).1 < n ∧ (order2 lt d a b s).2.1 < n ∧ (order2 lt d a b s).2.2 ≤ s + 1 := by
  unfold order2; split <;> simp <;> omega

set_option maxHeartbeats 2000000 in
set_option maxRecDepth 100000 in
theorem median_is (C : Ctx enc lt lb sf sb blk off size w0) (i j k c s : Nat) {x y z : Int} (hx : x = (i : Int)) (hy : y = (j : Int)) (hz : z = (k : Int)) (d : Array α) (hd : d.size = size) (W : World) (hW : SW enc w0 blk off d W) (hi : i < size) (hj : j < size) (hk : k < size) (hc : Cnt c s W) (hc0 : w0.heap.size ≤ c) (hs : s ≤ 900) :
    Calls Try.prog 80 #[dat lb sf sb, .int .i64 x, .int .i64 y, .int .i64 z, .pointer (some ⟨c, 0, none⟩)] W fun e w' => e = .returned (.int .i64 ((median lt d i j k s).1 : Int)) ∧ Hid (SW enc w0 blk off d w') ∧ Hid (KeptC blk c W w') ∧ Hid (Cnt c (median lt d i j k s).2 w') := by
  subst hx; subst hy; subst hz
  have hlt := C.le hW
  have hbl := C.hblk
  have HC : Hid (Ctx enc lt lb sf sb blk off size w0) := C
  have HW : Hid (SW enc w0 blk off d W) := hW
  have HN : Hid (Cnt c s W) := hc
  have hcl := hc.inb
  clear C hW hc
  obtain ⟨a1, b1, s1, h1⟩ : ∃ x1 x2 x3, order2 lt d i j s = (x1, x2, x3) := ⟨_, _, _, rfl⟩
  have l1 := order2_lt (lt := lt) (d := d) (s := s) hi hj
  rw [h1] at l1
  obtain ⟨b2, c2, s2, h2⟩ : ∃ x1 x2 x3, order2 lt d b1 k s1 = (x1, x2, x3) := ⟨_, _, _, rfl⟩
  have l2 := order2_lt (lt := lt) (d := d) (s := s1) l1.2.1 hk
  rw [h2] at l2
  obtain ⟨a3, b3, s3, h3⟩ : ∃ x1 x2 x3, order2 lt d a1 b2 s2 = (x1, x2, x3) := ⟨_, _, _, rfl⟩
  simp only at l1 l2
  have em : median lt d i j k s = (b3, s3) := by unfold median; simp only [h1, h2, h3]
  rw [em]
  have H1 : Hid (order2 lt d i j s = (a1, b1, s1)) := h1
  have H2 : Hid (order2 lt d b1 k s1 = (b2, c2, s2)) := h2
  have H3 : Hid (order2 lt d a1 b2 s2 = (a3, b3, s3)) := h3
  clear h1 h2 h3 em
  have t1 : True := trivial
  have t2 : True := trivial
  go_enter Try.func80, Try.ntmps80
  go_wp2_with (first
    | (go_at_call 81; have _t := t1; refine (order2_is HC.out i j c s rfl rfl d hd _ (HW.out.alloc _) hi hj (HN.out.kept ((Kept.refl blk W).alloc _) (by omega)) hc0 (by omega)).mono ?_; rw [H1.out]; rintro e w1 ⟨rfl, HS1, HK1, HN1⟩; clear t1; obtain ⟨p0, p1⟩ := box_atC lb sf sb HK1.out hlt hcl)
    | (go_at_call 81; have _t := t2; refine (order2_is HC.out b1 k c s1 rfl rfl d hd _ HS1.out (by omega) hk HN1.out hc0 (by omega)).mono ?_; rw [H2.out]; rintro e w2 ⟨rfl, HS2, HK2, HN2⟩; clear t2; obtain ⟨q0, q1⟩ := box_atC lb sf sb (HK1.out.trans HK2.out) hlt hcl)
    | (go_at_call 81; refine (order2_is HC.out a1 b2 c s2 rfl rfl d hd _ HS2.out (by omega) (by omega) HN2.out hc0 (by omega)).mono ?_; rw [H3.out]; rintro e w3 ⟨rfl, HS3, HK3, HN3⟩))
  go_ret
  exact ⟨rfl, HS3, ((HK1.out.trans HK2.out).trans HK3.out).ofAlloc, HN3⟩

theorem median_lt {d : Array α} {i j k s n : Nat} (hi : i < n) (hj : j < n) (hk : k < n) : (median lt d i j k s).1 < n ∧ (median lt d i j k s).2 ≤ s + 3 := by
  unfold median
  have l1 := order2_lt (lt := lt) (d := d) (s := s) hi hj
  have l2 := order2_lt (lt := lt) (d := d) (s := (order2 lt d i j s).2.2) l1.2.1 hk
  have l3 := order2_lt (lt := lt) (d := d) (s := (order2 lt d (order2 lt d i j s).2.1 k (order2 lt d i j s).2.2).2.2) l1.1 l2.1
  simp only
  omega

set_option maxHeartbeats 2000000 in
set_option maxRecDepth 100000 in
theorem medianAdjacent_is (C : Ctx enc lt lb sf sb blk off size w0) (i c s : Nat) {x : Int} (hx : x = (i : Int)) (d : Array α) (hd : d.size = size) (W : World) (hW : SW enc w0 blk off d W) (hi0 : 1 ≤ i) (hi : i + 1 < size) (hc : Cnt c s W) (hc0 : w0.heap.size ≤ c) (hs : s ≤ 900) (m s' : Nat) (hm : medianAdjacent lt d i s = (m, s')) :
    Calls Try.prog 79 #[dat lb sf sb, .int .i64 x, .pointer (some ⟨c, 0, none⟩)] W fun e w' => e = .returned (.int .i64 (m : Int)) ∧ Hid (SW enc w0 blk off d w') ∧ Hid (KeptC blk c W w') ∧ Hid (Cnt c s' w') := by
  subst hx
  have hlt := C.le hW
  have hbl := C.hblk
  have hsz := C.hsz
  have HC : Hid (Ctx enc lt lb sf sb blk off size w0) := C
  have HW : Hid (SW enc w0 blk off d W) := hW
  have HN : Hid (Cnt c s W) := hc
  have hcl := hc.inb
  have HM : Hid (median lt d (i - 1) i (i + 1) s = (m, s')) := hm
  clear C hW hc hm
  go_enter Try.func79, Try.ntmps79
  go_wp2_with (go_at_call 80; refine (median_is HC.out (i - 1) i (i + 1) c s (by omega) (by omega) (by omega) d hd _ (HW.out.alloc _) (by omega) (by omega) (by omega) (HN.out.kept ((Kept.refl blk W).alloc _) (by omega)) hc0 hs).mono ?_; rw [HM.out]; rintro e w1 ⟨rfl, HS1, HK1, HN1⟩)
  go_ret
  exact ⟨rfl, HS1, HK1.out.ofAlloc, HN1⟩

/-- a hint, as Go numbers it -/
def hintN : Hint → Int
  | .unknown => 0
  | .increasing => 1
  | .decreasing => 2

theorem cnt_start {blk : Nat} (W : World) (o : Obj) (t : TypeId) : Cnt (W.heap.size + 1) 0 ((W.alloc o).alloc (.cells #[.int .i64 0] t)) := by
  have h := heap_alloc_new (W.alloc o) (.cells #[.int .i64 0] t)
  rw [show (W.alloc o).heap.size = W.heap.size + 1 by simp] at h
  exact ⟨cell_of_row _ _ 0 _ _ _ h, frozen_of_row _ _ 0 _ _ h⟩

end Go.Proofs.Qxb6609068a.Srt
