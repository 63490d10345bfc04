/-
  sort.choosePivot_func, with a 'less' that lays blocks.
-/
import Derived.Test.Qxb6609068aSrt4
namespace Go.Proofs.Qxb6609068a.Srt
open Go.Shelf Go.RowKit Go.Lib Go.Sort
set_option linter.unusedVariables false
set_option linter.unusedSimpArgs false
variable {α : Type} [Inhabited α] {enc : α → Value} {lt : α → α → Bool} {lb : Array Value} {sf : Nat} {sb : Array Value} {blk off size : Nat} {w0 : World}

theorem box_atN (lb : Array Value) (sf : Nat) (sb : Array Value) {blk : Nat} {W W' : World} (h : KeptC blk (W.heap.size + 1) (W.alloc (datB lb sf sb)) W') (hlt : blk < W.heap.size) :
    W'.cell? ⟨W.heap.size, 0, none⟩ = some (.func (.func 49) #[] lb) ∧ W'.cell? ⟨W.heap.size, 1, none⟩ = some (.func (.func sf) #[] sb) :=
  ⟨h.cell (cell_of_row _ _ 0 _ _ _ (heap_alloc_new W _)) (by omega) (by omega), h.cell (cell_of_row _ _ 1 _ _ _ (heap_alloc_new W _)) (by omega) (by omega)⟩

def hintOf (s : Nat) : Hint := if s = 0 then .increasing else if s = 12 then .decreasing else .unknown

theorem cp_small {d : Array α} {a b : Nat} (h : ¬ 8 ≤ b - a) : choosePivot lt d a b = (a + (b - a) / 4 * 2, .increasing) := by
  unfold choosePivot
  simp only [ge_iff_le]
  rw [if_neg h]; rfl
theorem cp_mid {d : Array α} {a b m s : Nat} (h : 8 ≤ b - a) (h2 : ¬ 50 ≤ b - a) (hm : median lt d (a + (b - a) / 4 * 1) (a + (b - a) / 4 * 2) (a + (b - a) / 4 * 3) 0 = (m, s)) : choosePivot lt d a b = (m, hintOf s) := by
  unfold choosePivot
  simp only [ge_iff_le]
  rw [if_pos h, if_neg h2, hm]; rfl
theorem cp_big {d : Array α} {a b m s i1 s1 j1 s2 k1 s3 : Nat} (h : 8 ≤ b - a) (h2 : 50 ≤ b - a) (e1 : medianAdjacent lt d (a + (b - a) / 4 * 1) 0 = (i1, s1)) (e2 : medianAdjacent lt d (a + (b - a) / 4 * 2) s1 = (j1, s2)) (e3 : medianAdjacent lt d (a + (b - a) / 4 * 3) s2 = (k1, s3))
    (hm : median lt d i1 j1 k1 s3 = (m, s)) : choosePivot lt d a b = (m, hintOf s) := by
  unfold choosePivot
  simp only [ge_iff_le]
  rw [if_pos h, if_pos h2]
  simp only [e1, e2, e3, hm]; rfl

theorem hint_cases (s : Nat) : (s = 0 ∧ hintOf s = .increasing) ∨ (s = 12 ∧ hintOf s = .decreasing) ∨ (¬ s = 0 ∧ ¬ s = 12 ∧ hintOf s = .unknown) := by
  unfold hintOf
  by_cases h : s = 0
  · exact .inl ⟨h, if_pos h⟩
  by_cases h2 : s = 12
  · exact .inr (.inl ⟨h2, by rw [if_neg h, if_pos h2]⟩)
  · exact .inr (.inr ⟨h, h2, by rw [if_neg h, if_neg h2]⟩)

set_option maxHeartbeats 4000000 in
set_option maxRecDepth 100000 in
theorem choosePivot_is (C : Ctx enc lt lb sf sb blk off size w0) (a b : Nat) (d : Array α) (hd : d.size = size) (W : World) (hW : SW enc w0 blk off d W) (hab : a < b) (hb : b ≤ size) :
    Calls Try.prog 71 #[dat lb sf sb, .int .i64 a, .int .i64 b] W fun e w' => e = .returned (.tuple #[.int .i64 ((choosePivot lt d a b).1 : Int), .int .i64 (hintN (choosePivot lt d a b).2)]) ∧ Hid (SW enc w0 blk off d w') ∧ Hid (Kept blk W w') := by
  have hlt := C.le hW
  have hbl := C.hblk
  have hsz := C.hsz
  have hle := hW.le
  have HC : Hid (Ctx enc lt lb sf sb blk off size w0) := C
  have HW : Hid (SW enc w0 blk off d W) := hW
  clear C hW
  have HS0 : Hid (SW enc w0 blk off d ((W.alloc (datB lb sf sb)).alloc (.cells #[.int .i64 0] 3))) := (HW.out.alloc _).alloc _
  have HN0 : Hid (Cnt (W.heap.size + 1) 0 ((W.alloc (datB lb sf sb)).alloc (.cells #[.int .i64 0] 3))) := cnt_start (blk := blk) W _ 3
  have HB : Hid (KeptC blk (W.heap.size + 1) (W.alloc (datB lb sf sb)) ((W.alloc (datB lb sf sb)).alloc (.cells #[.int .i64 0] 3))) := ((Kept.refl blk _).alloc _).toC _
  obtain ⟨q, hq⟩ : ∃ q : Nat, q = (b - a) / 4 := ⟨_, rfl⟩
  have hq4 : 4 * q ≤ b - a := by omega
  have hqi : ((b : Int) - (a : Int)).tdiv 4 = (q : Int) := by
    rw [Int.tdiv_eq_ediv_of_nonneg (by omega)]; omega
  by_cases h8 : 8 ≤ b - a
  · by_cases h50 : 50 ≤ b - a
    · obtain ⟨i1, s1, e1⟩ : ∃ m s, medianAdjacent lt d (a + (b - a) / 4 * 1) 0 = (m, s) := ⟨_, _, rfl⟩
      obtain ⟨j1, s2, e2⟩ : ∃ m s, medianAdjacent lt d (a + (b - a) / 4 * 2) s1 = (m, s) := ⟨_, _, rfl⟩
      obtain ⟨k1, s3, e3⟩ : ∃ m s, medianAdjacent lt d (a + (b - a) / 4 * 3) s2 = (m, s) := ⟨_, _, rfl⟩
      obtain ⟨m, s, hm⟩ : ∃ m s, median lt d i1 j1 k1 s3 = (m, s) := ⟨_, _, rfl⟩
      rw [cp_big h8 h50 e1 e2 e3 hm]
      rw [← hq] at e1 e2 e3
      have l1 := median_lt (lt := lt) (d := d) (s := 0) (n := size) (show a + q * 1 - 1 < size by omega) (show a + q * 1 < size by omega) (show a + q * 1 + 1 < size by omega)
      have l2 := median_lt (lt := lt) (d := d) (s := s1) (n := size) (show a + q * 2 - 1 < size by omega) (show a + q * 2 < size by omega) (show a + q * 2 + 1 < size by omega)
      have l3 := median_lt (lt := lt) (d := d) (s := s2) (n := size) (show a + q * 3 - 1 < size by omega) (show a + q * 3 < size by omega) (show a + q * 3 + 1 < size by omega)
      have f1 : median lt d (a + q * 1 - 1) (a + q * 1) (a + q * 1 + 1) 0 = (i1, s1) := e1
      have f2 : median lt d (a + q * 2 - 1) (a + q * 2) (a + q * 2 + 1) s1 = (j1, s2) := e2
      have f3 : median lt d (a + q * 3 - 1) (a + q * 3) (a + q * 3 + 1) s2 = (k1, s3) := e3
      rw [f1] at l1
      rw [f2] at l2
      rw [f3] at l3
      simp only at l1 l2 l3
      have E1 : Hid (medianAdjacent lt d (a + q * 1) 0 = (i1, s1)) := e1
      have E2 : Hid (medianAdjacent lt d (a + q * 2) s1 = (j1, s2)) := e2
      have E3 : Hid (medianAdjacent lt d (a + q * 3) s2 = (k1, s3)) := e3
      have HM : Hid (median lt d i1 j1 k1 s3 = (m, s)) := hm
      clear hm e1 e2 e3 f1 f2 f3
      have t1 : True := trivial
      have t2 : True := trivial
      rcases hint_cases s with ⟨hs, hh⟩ | ⟨hs, hh⟩ | ⟨hs, hs2, hh⟩
      all_goals
        rw [hh]
        clear hh
        go_enter Try.func71, Try.ntmps71
        go_wp2_with (first
          | (go_at_call 79; have _t := t1; refine (medianAdjacent_is HC.out (a + q * 1) (W.heap.size + 1) 0 (by omega) d hd _ HS0.out (by omega) (by omega) HN0.out (by omega) (by omega) i1 s1 E1.out).mono ?_; rintro e w1 ⟨rfl, HS1, HK1, HN1⟩; clear t1; obtain ⟨p0, p1⟩ := box_atN lb sf sb (HB.out.trans HK1.out) hlt)
          | (go_at_call 79; have _t := t2; refine (medianAdjacent_is HC.out (a + q * 2) (W.heap.size + 1) s1 (by omega) d hd _ HS1.out (by omega) (by omega) HN1.out (by omega) (by omega) j1 s2 E2.out).mono ?_; rintro e w2 ⟨rfl, HS2, HK2, HN2⟩; clear t2; obtain ⟨q0, q1⟩ := box_atN lb sf sb ((HB.out.trans HK1.out).trans HK2.out) hlt)
          | (go_at_call 79; refine (medianAdjacent_is HC.out (a + q * 3) (W.heap.size + 1) s2 (by omega) d hd _ HS2.out (by omega) (by omega) HN2.out (by omega) (by omega) k1 s3 E3.out).mono ?_; rintro e w3 ⟨rfl, HS3, HK3, HN3⟩; obtain ⟨r0, r1⟩ := box_atN lb sf sb (((HB.out.trans HK1.out).trans HK2.out).trans HK3.out) hlt)
          | (go_at_call 80; refine (median_is HC.out i1 j1 k1 (W.heap.size + 1) s3 (by omega) (by omega) (by omega) d hd _ HS3.out (by omega) (by omega) (by omega) HN3.out (by omega) (by omega)).mono ?_; rw [HM.out]; rintro e w4 ⟨rfl, HS4, HK4, HN4⟩; have n0 := HN4.out.1))
        go_ret2
        exact ⟨rfl, HS4, ((((HB.out.trans HK1.out).trans HK2.out).trans HK3.out).trans HK4.out).ofAlloc.drop (by omega)⟩
    · obtain ⟨m, s, hm⟩ : ∃ m s, median lt d (a + (b - a) / 4 * 1) (a + (b - a) / 4 * 2) (a + (b - a) / 4 * 3) 0 = (m, s) := ⟨_, _, rfl⟩
      rw [cp_mid h8 h50 hm]
      rw [← hq] at hm
      have HM : Hid (median lt d (a + q * 1) (a + q * 2) (a + q * 3) 0 = (m, s)) := hm
      clear hm
      rcases hint_cases s with ⟨hs, hh⟩ | ⟨hs, hh⟩ | ⟨hs, hs2, hh⟩
      all_goals
        rw [hh]
        clear hh
        go_enter Try.func71, Try.ntmps71
        go_wp2_with (go_at_call 80; refine (median_is HC.out (a + q * 1) (a + q * 2) (a + q * 3) (W.heap.size + 1) 0 (by omega) (by omega) (by omega) d hd _ HS0.out (by omega) (by omega) (by omega) HN0.out (by omega) (by omega)).mono ?_; rw [HM.out]; rintro e w1 ⟨rfl, HS1, HK1, HN1⟩; have n0 := HN1.out.1)
        go_ret2
        exact ⟨rfl, HS1, (HB.out.trans HK1.out).ofAlloc.drop (by omega)⟩
  · rw [cp_small h8]
    go_enter Try.func71, Try.ntmps71
    go_wp2
    go_ret2
    exact ⟨by simp [hintN], HS0, (HB.out.ofAlloc).drop (by omega)⟩

end Go.Proofs.Qxb6609068a.Srt
