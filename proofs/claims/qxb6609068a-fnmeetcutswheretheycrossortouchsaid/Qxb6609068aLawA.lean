/-
  THE WALK of FnMeetIgnoresOrderPlaceAndEarlierCuts, inside its bounds.
-/
import Derived.Test.Qxb6609068aZzmeet
import Derived.Test.Qxb6609068aOpen
import Derived.Deep.DeepCutAuto
import Derived.Deep.LoopGhost
import Derived.Laws.StructEq
namespace Go.Proofs.Qxb6609068a.Small
open Go.ChangeShapes Go.WideShapes Go.ChangeAt Go.RowKit
open Fl (eB roundBits)
set_option linter.unusedVariables false
attribute [local go_sem ↓] Go.wp_at_zero Go.wp_at_succ
attribute [local go_sem] run_store_float

theorem wrap0 {x : Int} (h : -536870912 ≤ x ∧ x ≤ 536870912) : wrap64 (x + 0) = x := by
  rw [Int.add_zero]; unfold wrap64; omega
theorem wrapt {x t : Int} (h : -536870912 ≤ x ∧ x ≤ 536870912) (k : -536870912 ≤ t ∧ t ≤ 536870912) : wrap64 (x + t) = x + t := by
  unfold wrap64; omega

/-- a segment within the bounds -/
def SegIn (s : Segs) (i : Nat) : Prop := (-536870912 ≤ s.ax i ∧ s.ax i ≤ 536870912) ∧ (-536870912 ≤ s.ay i ∧ s.ay i ≤ 536870912) ∧ (-536870912 ≤ s.bx i ∧ s.bx i ≤ 536870912) ∧ (-536870912 ≤ s.by' i ∧ s.by' i ≤ 536870912)

theorem segIn_of {s : Segs} {i : Nat} (h : segB (s.ax i) (s.ay i) (s.bx i) (s.by' i) = true) : SegIn s i := by
  unfold segB at h
  simp only [Bool.and_eq_true] at h
  exact ⟨inR_true h.1, inR_true h.2.1, inR_true h.2.2.1, inR_true h.2.2.2⟩

/-- the cuts of segments lo and hi -/
def cutsAt (s : Segs) (lo hi : Nat) : List (Int × Int × Int) := newCuts lo hi (s.ax lo) (s.ay lo) (s.bx lo) (s.by' lo) (s.ax hi) (s.ay hi) (s.bx hi) (s.by' hi)

theorem own_lt {w : World} {B : Nat} {e : TypeId} {size g n cap : Nat} {xs : List Value} (h : w.ownsRow B e size (.slice (some ⟨g, 0, none⟩) n cap) n xs) (hn : 0 < n) : g < w.heap.size := (h.lt g rfl).2

theorem meet0 {w : World} {B ge n : Nat} {s : Segs} (lo hi a b : Nat) (base : Nat) (v : Value) (nv : Nat) (l : List (Int × Int × Int)) (hn : n ≤ 8192) (h1 : lo ≤ hi) (h2 : hi < n) (hE : w.ownsRow B 63 8 (.slice (some ⟨ge, 0, none⟩) n n) n (rowOf (n * 8) (edgeT s 0 0)))
    (k1 : SegIn s lo) (k2 : SegIn s hi) (hown : w.ownsRow base 66 3 v nv (cutCells l)) (hbase : base ≤ w.heap.size) (hnv : nv ≤ 65536) (hge : ge < base) (hab : (a = lo ∧ b = hi) ∨ (a = hi ∧ b = lo)) :
    Calls Try.prog 17 #[.slice (some ⟨ge, 0, none⟩) n n, .int .i64 a, .int .i64 b, v] w fun e w' => ∃ v', e = .returned v' ∧ w'.ownsRow base 66 3 v' (nv + (cutsAt s lo hi).length) (cutCells (l ++ cutsAt s lo hi)) ∧ Below base w w' := by
  obtain ⟨p0, p1, p2, p3⟩ := k1
  obtain ⟨q0, q1, q2, q3⟩ := k2
  refine (zzmeet_is ge n lo hi 0 0 (s.ax lo) (s.ay lo) (s.bx lo) (s.by' lo) (s.ax hi) (s.ay hi) (s.bx hi) (s.by' hi) base v nv (cutCells l) w hn h1 h2 (edge_of hE lo (by omega) (wrap0 p0) (wrap0 p1) (wrap0 p2) (wrap0 p3)) (edge_of hE hi h2 (wrap0 q0) (wrap0 q1) (wrap0 q2) (wrap0 q3))
    (by omega) (by omega) (by omega) (by omega) (by omega) (by omega) (by omega) (by omega) (by omega) (by omega) hown hbase hnv hge a b hab).mono ?_
  rintro e w' ⟨v', rfl, ho, hb⟩
  exact ⟨v', rfl, by rw [cutCells_append]; exact ho, hb⟩

theorem meett {w : World} {B ge n : Nat} {s : Segs} (tx ty : Int) (lo hi a b : Nat) (base : Nat) (v : Value) (nv : Nat) (l : List (Int × Int × Int)) (hn : n ≤ 8192) (h1 : lo ≤ hi) (h2 : hi < n) (hE : w.ownsRow B 63 8 (.slice (some ⟨ge, 0, none⟩) n n) n (rowOf (n * 8) (edgeT s tx ty)))
    (k1 : SegIn s lo) (k2 : SegIn s hi) (t0 : -536870912 ≤ tx ∧ tx ≤ 536870912) (t1 : -536870912 ≤ ty ∧ ty ≤ 536870912) (hown : w.ownsRow base 66 3 v nv (cutCells l)) (hbase : base ≤ w.heap.size) (hnv : nv ≤ 65536) (hge : ge < base) (hab : (a = lo ∧ b = hi) ∨ (a = hi ∧ b = lo)) :
    Calls Try.prog 17 #[.slice (some ⟨ge, 0, none⟩) n n, .int .i64 a, .int .i64 b, v] w fun e w' => ∃ v', e = .returned v' ∧ w'.ownsRow base 66 3 v' (nv + (cutsAt s lo hi).length) (cutCells (l ++ (cutsAt s lo hi).map (shift tx ty))) ∧ Below base w w' := by
  obtain ⟨p0, p1, p2, p3⟩ := k1
  obtain ⟨q0, q1, q2, q3⟩ := k2
  refine (zzmeet_is ge n lo hi tx ty (s.ax lo + tx) (s.ay lo + ty) (s.bx lo + tx) (s.by' lo + ty) (s.ax hi + tx) (s.ay hi + ty) (s.bx hi + tx) (s.by' hi + ty) base v nv (cutCells l) w hn h1 h2 (edge_of hE lo (by omega) (wrapt p0 t0) (wrapt p1 t1) (wrapt p2 t0) (wrapt p3 t1)) (edge_of hE hi h2 (wrapt q0 t0) (wrapt q1 t1) (wrapt q2 t0) (wrapt q3 t1))
    t0 t1 (by omega) (by omega) (by omega) (by omega) (by omega) (by omega) (by omega) (by omega) hown hbase hnv hge a b hab).mono ?_
  rintro e w' ⟨v', rfl, ho, hb⟩
  rw [new_move] at ho
  rw [List.length_map] at ho
  exact ⟨v', rfl, by rw [cutCells_append]; exact ho, hb⟩

theorem meetCount_m (s : Segs) (lo hi m : Nat) (hm : (cutsAt s lo hi).length = m) (k1 : SegIn s lo) (k2 : SegIn s hi) (w : World) :
    Calls Try.prog 20 #[sgv (s.ax lo) (s.ay lo) (s.bx lo) (s.by' lo) (s.rg lo) (s.ix lo) (s.t0 lo) (s.t1 lo), sgv (s.ax hi) (s.ay hi) (s.bx hi) (s.by' hi) (s.rg hi) (s.ix hi) (s.t0 hi) (s.t1 hi)] w fun e w' =>
      e = .returned (.int .i64 (m : Int)) ∧ Below w.heap.size w w' := by
  obtain ⟨p0, p1, p2, p3⟩ := k1
  obtain ⟨q0, q1, q2, q3⟩ := k2
  rw [← hm]
  exact meetCount_is lo hi _ _ _ _ _ _ _ _ _ _ _ _ _ _ _ _ w p0 p1 p2 p3 q0 q1 q2 q3

/-- the k-th cut of a list, out of its row -/
theorem cut_of {w : World} {B : Nat} {e : TypeId} {g n cap : Nat} {l : List (Int × Int × Int)} (h : w.ownsRow B e 3 (.slice (some ⟨g, 0, none⟩) n cap) n (cutCells l)) (hl : l.length = n) (k : Nat) (hk : k < n) {c : Int × Int × Int} (hc : l.getD k (0, 0, 0) = c) :
    w.cell? ⟨g, k * 3, none⟩ = some (.int .i64 c.1) ∧ w.cell? ⟨g, k * 3 + 1, none⟩ = some (.int .i64 c.2.1) ∧ w.cell? ⟨g, k * 3 + 2, none⟩ = some (.int .i64 c.2.2) := by
  rw [cutCells_rowOf l, hl] at h
  subst hc
  refine ⟨?_, ?_, ?_⟩
  · rw [own_rowOf h rfl (k * 3) (by omega), cutT0]
  · rw [own_rowOf h rfl (k * 3 + 1) (by omega), cutT1]
  · rw [own_rowOf h rfl (k * 3 + 2) (by omega), cutT2]

theorem getD_left {l l' : List (Int × Int × Int)} {k : Nat} (h : k < l.length) : (l ++ l').getD k (0, 0, 0) = l.getD k (0, 0, 0) := by
  rw [List.getD_eq_getElem?_getD, List.getElem?_append_left h, List.getD_eq_getElem?_getD]
theorem getD_right {l l' : List (Int × Int × Int)} {k : Nat} : (l ++ l').getD (l.length + k) (0, 0, 0) = l'.getD k (0, 0, 0) := by
  rw [List.getD_eq_getElem?_getD, List.getElem?_append_right (by omega), List.getD_eq_getElem?_getD, Nat.add_sub_cancel_left]
theorem getD_list {n : Nat} {q : Nat → Int × Int × Int} {k : Nat} (h : k < n) : (cutList n q).getD k (0, 0, 0) = q k := by
  simp [cutList, List.getD_eq_getElem?_getD, List.getElem?_range h]

theorem off_in {d1 D dx : Int} (h : (0 < d1 ∧ d1 < D) ∨ (D < d1 ∧ d1 < 0)) (hD : -4611686018427387904 ≤ D ∧ D ≤ 4611686018427387904) (hx : -1073741824 ≤ dx ∧ dx ≤ 1073741824) : -1073741825 ≤ offZ d1 D dx ∧ offZ d1 D dx ≤ 1073741825 := by
  obtain ⟨u, p, n, h1, h2, h3, c1, c2⟩ := Fl.cross_off d1 D dx h hD hx
  rw [off_eq h1 h2 h3]
  exact Fl.off_bd d1 D dx n h hx c1 c2

theorem cuts_bd (s : Segs) (lo hi : Nat) (k1 : SegIn s lo) (k2 : SegIn s hi) : ∀ c ∈ cutsAt s lo hi, (-4294967296 ≤ c.2.1 ∧ c.2.1 ≤ 4294967296) ∧ (-4294967296 ≤ c.2.2 ∧ c.2.2 ≤ 4294967296) := by
  obtain ⟨p0, p1, p2, p3⟩ := k1
  obtain ⟨q0, q1, q2, q3⟩ := k2
  intro c hc
  unfold cutsAt newCuts at hc
  split at hc
  · rename_i hx
    have hop := cross_open hx
    have b1 := ori_bd (s.ax hi) (s.ay hi) (s.bx hi) (s.by' hi) (s.ax lo) (s.ay lo) (by omega) (by omega) (by omega) (by omega)
    have b2 := ori_bd (s.ax hi) (s.ay hi) (s.bx hi) (s.by' hi) (s.bx lo) (s.by' lo) (by omega) (by omega) (by omega) (by omega)
    generalize oriZ (s.ax hi) (s.ay hi) (s.bx hi) (s.by' hi) (s.ax lo) (s.ay lo) = d1 at *
    generalize oriZ (s.ax hi) (s.ay hi) (s.bx hi) (s.by' hi) (s.bx lo) (s.by' lo) = d2 at *
    have o1 := off_in (d1 := d1) (D := d1 - d2) (dx := s.bx lo - s.ax lo) (by omega) (by omega) (by omega)
    have o2 := off_in (d1 := d1) (D := d1 - d2) (dx := s.by' lo - s.ay lo) (by omega) (by omega) (by omega)
    simp only [List.mem_cons, List.not_mem_nil, or_false] at hc
    rcases hc with rfl | rfl
    · exact ⟨by dsimp only; omega, by dsimp only; omega⟩
    · exact ⟨by dsimp only; omega, by dsimp only; omega⟩
  · simp only [List.mem_append] at hc
    have key : ∀ (b : Bool) (d : Int × Int × Int), c ∈ (if b then [d] else []) → c = d := by
      intro b d h
      cases b
      · simp at h
      · simpa using h
    rcases hc with h | h | h | h
    · rw [key _ _ h]; exact ⟨by dsimp only; omega, by dsimp only; omega⟩
    · rw [key _ _ h]; exact ⟨by dsimp only; omega, by dsimp only; omega⟩
    · rw [key _ _ h]; exact ⟨by dsimp only; omega, by dsimp only; omega⟩
    · rw [key _ _ h]; exact ⟨by dsimp only; omega, by dsimp only; omega⟩

theorem getD_in {l : List (Int × Int × Int)} {k : Nat} (h : k < l.length) : l.getD k (0, 0, 0) ∈ l := by
  rw [List.getD_eq_getElem?_getD, List.getElem?_eq_getElem h]; exact List.getElem_mem h
theorem getD_map {l : List (Int × Int × Int)} {k : Nat} {f : Int × Int × Int → Int × Int × Int} (h : k < l.length) : (l.map f).getD k (0, 0, 0) = f (l.getD k (0, 0, 0)) := by
  rw [List.getD_eq_getElem?_getD, List.getElem?_map, List.getD_eq_getElem?_getD, List.getElem?_eq_getElem h]; rfl


set_option maxRecDepth 100000 in
set_option maxHeartbeats 20000000 in
theorem ignores_in (b o n c : Nat) (s : Segs) (ca : Option Addr) (nc cc : Nat) (q : Nat → Int × Int × Int) (i j lo hi : Nat) (tx ty : Int) (w : World) (hn : n ≤ 8192) (hnc : nc ≤ 16384) (hs : ∀ k, k < n → SegAt w b o s k) (hq : CutRow w ca nc q)
    (hi' : i < n) (hj' : j < n) (b1 : segB (s.ax i) (s.ay i) (s.bx i) (s.by' i) = true) (b2 : segB (s.ax j) (s.ay j) (s.bx j) (s.by' j) = true) (b3 : inR tx = true) (b4 : inR ty = true)
    (h1 : lo ≤ hi) (hab : (i = lo ∧ j = hi) ∨ (i = hi ∧ j = lo)) :
    Calls Try.prog 6 #[.slice (some ⟨b, o, none⟩) n c, .int .i64 i, .int .i64 j, .slice ca nc cc, .int .i64 tx, .int .i64 ty] w fun e w' => e = .returned (.bool true) ∧ Below w.heap.size w w' := by
  have HS : Hid (∀ k, k < n → SegAt w b o s k) := hs
  have HQ : Hid (CutRow w ca nc q) := hq
  have B1 : Hid (segB (s.ax i) (s.ay i) (s.bx i) (s.by' i) = true) := b1
  have B2 : Hid (segB (s.ax j) (s.ay j) (s.bx j) (s.by' j) = true) := b2
  have K1 : Hid (SegIn s lo) := by
    rcases hab with ⟨rfl, rfl⟩ | ⟨rfl, rfl⟩
    · exact segIn_of b1
    · exact segIn_of b2
  have K2 : Hid (SegIn s hi) := by
    rcases hab with ⟨rfl, rfl⟩ | ⟨rfl, rfl⟩
    · exact segIn_of b2
    · exact segIn_of b1
  have HAB : Hid ((i = lo ∧ j = hi) ∨ (i = hi ∧ j = lo)) := hab
  have h2 : hi < n := by omega
  have t0 := inR_true b3
  have t1 := inR_true b4
  clear hs hq b1 b2 hab
  have x1 : (i : Int) < (n : Int) := by omega
  have x2 : (j : Int) < (n : Int) := by omega
  obtain ⟨c0, c1, c2, c3, c4, c5, c6, c7⟩ := HS.out i hi'
  have tok : True := trivial
  go_enter Try.func6, Try.ntmps6
  go_upto_if 85 with (first
    | (go_at_call 19; refine (zzBytes19_yes _ _ _ _ _ _ _ _ _ _ _ hn hnc).mono ?_; rintro e w' ⟨rfl, hw⟩; subst w')
    | (go_at_call 13; have _t := tok; refine (segInRange_is (s.ax i) (s.ay i) (s.bx i) (s.by' i) (s.rg i) (s.ix i) (s.t0 i) (s.t1 i) true B1.out _).mono ?_; rintro e w1 ⟨rfl, hb1⟩; clear tok; obtain ⟨e0, e1, e2, e3, e4, e5, e6, e7⟩ := (HS.out j hj').on hb1)
    | (go_at_call 13; refine (segInRange_is (s.ax j) (s.ay j) (s.bx j) (s.by' j) (s.rg j) (s.ix j) (s.t0 j) (s.t1 j) true B2.out _).mono ?_; rintro e w2 ⟨rfl, hb2⟩)
    | (go_at_call 8; refine (inRange_is _ _ (by assumption) _).mono ?_; rintro e w' ⟨rfl, hw⟩; subst w'))
  have HB2 : Hid (Below w.heap.size w w2) := bthen hb1 hb2
  clear c0 c1 c2 c3 c4 c5 c6 c7 e0 e1 e2 e3 e4 e5 e6 e7 hb1 hb2 B1 B2
  go_cut [13, 14] (fun l h wc => l = .int .i64 lo ∧ h = .int .i64 hi ∧ Hid (Below w.heap.size w wc))
  case first =>
    by_cases hlt : lo < hi
    · rcases HAB.out with ⟨rfl, rfl⟩ | ⟨rfl, rfl⟩
      all_goals
        go_wp2_with fail
        go_meet
        case rel => exact ⟨rfl, rfl, HB2⟩
    · obtain rfl : lo = hi := by omega
      obtain ⟨rfl, rfl⟩ : i = lo ∧ j = lo := by have := HAB.out; omega
      go_wp2_with fail
      go_meet
      case rel => exact ⟨rfl, rfl, HB2⟩
  case rest =>
  obtain ⟨rfl, rfl, HBc⟩ := hcut
  clear HB2
  go_wp2_with fail
  refine (buildEdges_is b o n c s 0 0 wc hn (fun k hk => (HS.out k hk).on HBc.out)).mono ?_
  rintro e wE ⟨ge, rfl, hE, hbE⟩
  have hgl := own_lt hE (by omega : 0 < n)
  have HE : Hid (wE.ownsRow w.heap.size 63 8 (.slice (some ⟨ge, 0, none⟩) n n) n (rowOf (n * 8) (edgeT s 0 0))) := own_base hE HBc.out.size
  have HBe : Hid (Below w.heap.size w wE) := bthen HBc.out hbE
  clear hE hbE HBc
  go_wp2_with fail
  refine (meet0 lo hi i j wE.heap.size (.slice none 0 0) 0 [] hn h1 h2 HE.out K1.out K2.out (World.ownsRow_nil _ _ _ _) (Nat.le_refl _) (by omega) hgl HAB.out).mono ?_
  rintro e wM ⟨v1, rfl, ho1, hb1⟩
  rw [Nat.zero_add, List.nil_append] at ho1
  obtain ⟨m, hm⟩ : ∃ m, (cutsAt s lo hi).length = m := ⟨_, rfl⟩
  have hm4 : m ≤ 4 := by rw [← hm]; exact new_le _ _ _ _ _ _ _ _ _ _
  have HM : Hid ((cutsAt s lo hi).length = m) := hm
  rw [hm] at ho1
  have HO1 : Hid (wM.ownsRow wE.heap.size 66 3 v1 m (cutCells (cutsAt s lo hi))) := ho1
  have HBm : Hid (Below wE.heap.size wE wM) := hb1
  clear ho1 hb1 hm
  go_wp2_with fail
  refine (cutsOf_is wE.heap.size v1 m (cutsAt s lo hi) wM HO1.out HM.out (by omega)).mono ?_
  rintro e wB ⟨rfl, hoB, hbB⟩
  have HE2 : Hid (wB.ownsRow w.heap.size 63 8 (.slice (some ⟨ge, 0, none⟩) n n) n (rowOf (n * 8) (edgeT s 0 0))) := own_on (own_on HE.out HBm.out) hbB
  have HBb : Hid (Below w.heap.size w wB) := bthen HBe.out (bthen HBm.out hbB)
  have HR : Hid (wB.ownsRow w.heap.size 43 3 (.slice (some ⟨wM.heap.size, 0, none⟩) m m) m (cutCells (cutsAt s lo hi))) := own_base hoB (bthen HBe.out HBm.out).size
  obtain ⟨gb, hgb⟩ : ∃ gb, wM.heap.size = gb := ⟨_, rfl⟩
  rw [hgb] at HR ⊢
  clear hoB hbB hgb HO1 HBm HE HBe hgl
  go_wp2_with fail
  go_cut [106] (fun r wc => r = .bool false ∧ Hid (Below wB.heap.size wB wc))
  case first =>
    as_aux_lemma =>
      obtain ⟨c0, c1, c2, c3, c4, c5, c6, c7⟩ := (HS.out lo (by omega)).on HBb.out
      obtain ⟨e0, e1, e2, e3, e4, e5, e6, e7⟩ := (HS.out hi h2).on HBb.out
      have hlt : b < wB.heap.size := World.block_lt_of_cell? _ _ c0
      have x3 : (lo : Int) < (n : Int) := by omega
      have x4 : (hi : Int) < (n : Int) := by omega
      go_region_held3 (fun w' => w'.cell? ⟨b, o + lo * 8, none⟩ = some (.int .i64 (s.ax lo)) ∧ w'.cell? ⟨b, o + lo * 8 + 1, none⟩ = some (.int .i64 (s.ay lo)) ∧ w'.cell? ⟨b, o + lo * 8 + 2, none⟩ = some (.int .i64 (s.bx lo)) ∧ w'.cell? ⟨b, o + lo * 8 + 3, none⟩ = some (.int .i64 (s.by' lo)) ∧ w'.cell? ⟨b, o + lo * 8 + 4, none⟩ = some (.int .i64 (s.rg lo)) ∧ w'.cell? ⟨b, o + lo * 8 + 5, none⟩ = some (.int .i64 (s.ix lo)) ∧ w'.cell? ⟨b, o + lo * 8 + 6, none⟩ = some (.float .f64 (s.t0 lo)) ∧ w'.cell? ⟨b, o + lo * 8 + 7, none⟩ = some (.float .f64 (s.t1 lo)) ∧
          w'.cell? ⟨b, o + hi * 8, none⟩ = some (.int .i64 (s.ax hi)) ∧ w'.cell? ⟨b, o + hi * 8 + 1, none⟩ = some (.int .i64 (s.ay hi)) ∧ w'.cell? ⟨b, o + hi * 8 + 2, none⟩ = some (.int .i64 (s.bx hi)) ∧ w'.cell? ⟨b, o + hi * 8 + 3, none⟩ = some (.int .i64 (s.by' hi)) ∧ w'.cell? ⟨b, o + hi * 8 + 4, none⟩ = some (.int .i64 (s.rg hi)) ∧ w'.cell? ⟨b, o + hi * 8 + 5, none⟩ = some (.int .i64 (s.ix hi)) ∧ w'.cell? ⟨b, o + hi * 8 + 6, none⟩ = some (.float .f64 (s.t0 hi)) ∧ w'.cell? ⟨b, o + hi * 8 + 7, none⟩ = some (.float .f64 (s.t1 hi)))
        (first
          | go_keep
          | (go_split_ands; refine ⟨?_, ?_, ?_, ?_, ?_, ?_, ?_, ?_, ?_, ?_, ?_, ?_, ?_, ?_, ?_, ?_⟩ <;> (rw [hb1.cell (by simp; omega)]; assumption)))
        (first | (go_at_call 20; refine (meetCount_m s lo hi m HM.out K1.out K2.out _).mono ?_; rintro e w1 ⟨rfl, hb1⟩))
      all_goals
        go_wp2_with fail
        go_meet
        case rel => exact ⟨rfl, bthen (Below.refl _ _).drew hb1⟩
  case rest =>
  obtain ⟨rfl, HBx⟩ := hcut
  have HE3 : Hid (wc.ownsRow w.heap.size 63 8 (.slice (some ⟨ge, 0, none⟩) n n) n (rowOf (n * 8) (edgeT s 0 0))) := own_on HE2.out HBx.out
  have HR3 : Hid (wc.ownsRow w.heap.size 43 3 (.slice (some ⟨gb, 0, none⟩) m m) m (cutCells (cutsAt s lo hi))) := own_on HR.out HBx.out
  have HB3 : Hid (Below w.heap.size w wc) := bthen HBb.out HBx.out
  clear HE2 HR HBx HBb
  -- with the cuts that came in
  go_wp2_with fail
  refine (buildCuts_is ca nc cc q wc hnc (HQ.out.on HB3.out)).mono ?_
  rintro e wG ⟨rfl, hoG, hbG⟩
  have HOG : Hid (wG.ownsRow wc.heap.size 66 3 (.slice (some ⟨wc.heap.size, 0, none⟩) nc nc) nc (cutCells (cutList nc q))) := hoG
  have hgl := own_lt HE3.out (by omega : 0 < n)
  have hszG := hbG.size
  have HE4 : Hid (wG.ownsRow w.heap.size 63 8 (.slice (some ⟨ge, 0, none⟩) n n) n (rowOf (n * 8) (edgeT s 0 0))) := own_on HE3.out hbG
  have HBG : Hid (Below wc.heap.size wc wG) := hbG
  clear hoG hbG
  go_wp2_with fail
  refine (meet0 lo hi i j wc.heap.size _ nc (cutList nc q) hn h1 h2 HE4.out K1.out K2.out HOG.out hszG (by omega) hgl HAB.out).mono ?_
  rintro e wM2 ⟨v2, rfl, ho2, hb2⟩
  rw [HM.out] at ho2
  have HO2 : Hid (wM2.ownsRow wc.heap.size 66 3 v2 (nc + m) (cutCells (cutList nc q ++ cutsAt s lo hi))) := ho2
  have HBm2 : Hid (Below wc.heap.size wc wM2) := HBG.out.trans hb2
  have HLW : Hid ((cutList nc q ++ cutsAt s lo hi).length = nc + m) := by show List.length _ = _; rw [List.length_append, cutList_len, HM.out]
  clear ho2 hb2 HOG HE4 hszG HBG
  go_wp2_with fail
  refine (cutsOf_is wc.heap.size v2 (nc + m) (cutList nc q ++ cutsAt s lo hi) wM2 HO2.out HLW.out (by omega)).mono ?_
  rintro e wW ⟨rfl, hoW, hbW⟩
  have HE5 : Hid (wW.ownsRow w.heap.size 63 8 (.slice (some ⟨ge, 0, none⟩) n n) n (rowOf (n * 8) (edgeT s 0 0))) := own_on (own_on HE3.out HBm2.out) hbW
  have HR5 : Hid (wW.ownsRow w.heap.size 43 3 (.slice (some ⟨gb, 0, none⟩) m m) m (cutCells (cutsAt s lo hi))) := own_on (own_on HR3.out HBm2.out) hbW
  have HB5 : Hid (Below w.heap.size w wW) := bthen HB3.out (bthen HBm2.out hbW)
  have HW5 : Hid (wW.ownsRow w.heap.size 43 3 (.slice (some ⟨wM2.heap.size, 0, none⟩) (nc + m) (nc + m)) (nc + m) (cutCells (cutList nc q ++ cutsAt s lo hi))) := own_base hoW (bthen HB3.out HBm2.out).size
  obtain ⟨gw, hgw⟩ : ∃ gw, wM2.heap.size = gw := ⟨_, rfl⟩
  rw [hgw] at HW5 ⊢
  clear hoW hbW hgw HO2 HBm2 HE3 HR3 HB3 hgl
  have hlb : (((nc + m : Nat) : Int) != (nc : Int) + (m : Int)) = false := by simp
  go_wp2_with fail
  clear hlb
  go_loopw [18] (fun k wr => ∃ t : Nat, t ≤ nc ∧ k = .int .i64 t ∧ Hid (Below wW.heap.size wW wr)) (fun k _ => nc - (intOf k).toNat)
  case atStart => exact ⟨0, Nat.zero_le _, rfl, Below.refl _ _⟩
  case round =>
  obtain ⟨t, ht, rfl, HBr⟩ := hrel
  by_cases htl : t < nc
  · as_aux_lemma =>
      obtain ⟨bc, oc, rfl, hc⟩ := HQ.out (by omega)
      obtain ⟨c0, c1, c2⟩ := hc t htl
      have c0' := cell_on (bthen HB5.out HBr.out) c0
      have c1' := cell_on (bthen HB5.out HBr.out) c1
      have c2' := cell_on (bthen HB5.out HBr.out) c2
      obtain ⟨e0, e1, e2⟩ := cut_of (own_on HW5.out HBr.out) HLW.out t (by omega) (getD_left (by rw [cutList_len]; exact htl))
      rw [getD_list htl] at e0 e1 e2
      obtain ⟨⟨A, X, Y⟩, hqt⟩ : ∃ c, q t = c := ⟨_, rfl⟩
      rw [hqt] at c0' c1' c2' e0 e1 e2
      dsimp only at c0' c1' c2' e0 e1 e2
      clear c0 c1 c2 hc hqt HQ HS
      have x5 : (t : Int) < (nc : Int) := by omega
      have x6 : (t : Int) < (nc : Int) + (m : Int) := by omega
      have x7 : (t : Int) < ((nc + m : Nat) : Int) := by omega
      go_wp2_with fail
      go_quiet (fail)
      go_wp2
      go_roundw
      case rel => exact ⟨t + 1, by omega, by go_num, below_drewN HBr.out nq⟩
      case measure => simp [intOf]; omega
  obtain rfl : t = nc := by omega
  have HE6 : Hid (wr.ownsRow w.heap.size 63 8 (.slice (some ⟨ge, 0, none⟩) n n) n (rowOf (n * 8) (edgeT s 0 0))) := own_on HE5.out HBr.out
  have HR6 : Hid (wr.ownsRow w.heap.size 43 3 (.slice (some ⟨gb, 0, none⟩) m m) m (cutCells (cutsAt s lo hi))) := own_on HR5.out HBr.out
  have HW6 : Hid (wr.ownsRow w.heap.size 43 3 (.slice (some ⟨gw, 0, none⟩) (t + m) (t + m)) (t + m) (cutCells (cutList t q ++ cutsAt s lo hi))) := own_on HW5.out HBr.out
  have HB6 : Hid (Below w.heap.size w wr) := bthen HB5.out HBr.out
  clear HE5 HR5 HW5 HB5 HBr htl ht
  go_wp2_with fail
  go_loopw [19] (fun k wx => ∃ u : Nat, u ≤ m ∧ k = .int .i64 u ∧ Hid (Below wr.heap.size wr wx)) (fun k _ => m - (intOf k).toNat)
  case atStart => exact ⟨0, Nat.zero_le _, rfl, Below.refl _ _⟩
  case round =>
  rename World => wx
  obtain ⟨u, hu, rfl, HBs⟩ := hrel
  by_cases hul : u < m
  · as_aux_lemma =>
      have hg := getD_right (l := cutList t q) (l' := cutsAt s lo hi) (k := u)
      rw [cutList_len] at hg
      obtain ⟨e0, e1, e2⟩ := cut_of (own_on HW6.out HBs.out) HLW.out (t + u) (by omega) hg
      obtain ⟨c0, c1, c2⟩ := cut_of (own_on HR6.out HBs.out) HM.out u hul rfl
      obtain ⟨⟨A, X, Y⟩, hqt⟩ : ∃ c, (cutsAt s lo hi).getD u (0, 0, 0) = c := ⟨_, rfl⟩
      rw [hqt] at c0 c1 c2 e0 e1 e2
      dsimp only at c0 c1 c2 e0 e1 e2
      clear hg hqt HQ HS
      have x5 : (u : Int) < (m : Int) := by omega
      have x7 : (t : Int) + (u : Int) < ((t + m : Nat) : Int) := by omega
      have x8 : (0 : Int) ≤ (t : Int) + (u : Int) := by omega
      have x9 : IntKind.i64.wrap ((t : Int) + (u : Int)) = (t : Int) + (u : Int) := wrap_in (by omega)
      have x10 : ((t : Int) + (u : Int)).toNat = t + u := by omega
      go_wp2_with fail
      go_quiet (fail)
      go_wp2
      go_roundw
      case rel => exact ⟨u + 1, by omega, by go_num, below_drewN HBs.out nq⟩
      case measure => simp [intOf]; omega
  obtain rfl : u = m := by omega
  have HE7 : Hid (wx.ownsRow w.heap.size 63 8 (.slice (some ⟨ge, 0, none⟩) n n) n (rowOf (n * 8) (edgeT s 0 0))) := own_on HE6.out HBs.out
  have HR7 : Hid (wx.ownsRow w.heap.size 43 3 (.slice (some ⟨gb, 0, none⟩) u u) u (cutCells (cutsAt s lo hi))) := own_on HR6.out HBs.out
  have HB7 : Hid (Below w.heap.size w wx) := bthen HB6.out HBs.out
  clear HE6 HR6 HW6 HB6 HBs hul hu HLW
  have HAB2 : Hid ((j = lo ∧ i = hi) ∨ (j = hi ∧ i = lo)) := by have := HAB.out; show _ ∨ _; omega
  have hgl := own_lt HE7.out (by omega : 0 < n)
  go_wp2_with fail
  refine (meet0 lo hi j i wx.heap.size (.slice none 0 0) 0 [] hn h1 h2 HE7.out K1.out K2.out (World.ownsRow_nil _ _ _ _) (Nat.le_refl _) (by omega) hgl HAB2.out).mono ?_
  rintro e wN ⟨v3, rfl, ho3, hb3⟩
  rw [Nat.zero_add, List.nil_append, HM.out] at ho3
  have HO3 : Hid (wN.ownsRow wx.heap.size 66 3 v3 u (cutCells (cutsAt s lo hi))) := ho3
  have HBn : Hid (Below wx.heap.size wx wN) := hb3
  clear ho3 hb3 HE7 hgl HAB2
  go_wp2_with fail
  refine (cutsOf_is wx.heap.size v3 u (cutsAt s lo hi) wN HO3.out HM.out (by omega)).mono ?_
  rintro e wS ⟨rfl, hoS, hbS⟩
  have HR8 : Hid (wS.ownsRow w.heap.size 43 3 (.slice (some ⟨gb, 0, none⟩) u u) u (cutCells (cutsAt s lo hi))) := own_on (own_on HR7.out HBn.out) hbS
  have HB8 : Hid (Below w.heap.size w wS) := bthen HB7.out (bthen HBn.out hbS)
  have HS8 : Hid (wS.ownsRow w.heap.size 43 3 (.slice (some ⟨wN.heap.size, 0, none⟩) u u) u (cutCells (cutsAt s lo hi))) := own_base hoS (bthen HB7.out HBn.out).size
  obtain ⟨gs, hgs⟩ : ∃ gs, wN.heap.size = gs := ⟨_, rfl⟩
  rw [hgs] at HS8 ⊢
  clear hoS hbS hgs HO3 HBn HR7 HB7
  go_wp2_with fail
  go_loopw [21] (fun k wy => ∃ z : Nat, z ≤ u ∧ k = .int .i64 z ∧ Hid (Below wS.heap.size wS wy)) (fun k _ => u - (intOf k).toNat)
  case atStart => exact ⟨0, Nat.zero_le _, rfl, Below.refl _ _⟩
  case round =>
  rename World => wy
  obtain ⟨z, hz, rfl, HBy⟩ := hrel
  by_cases hzl : z < u
  · as_aux_lemma =>
      obtain ⟨e0, e1, e2⟩ := cut_of (own_on HS8.out HBy.out) HM.out z hzl rfl
      obtain ⟨c0, c1, c2⟩ := cut_of (own_on HR8.out HBy.out) HM.out z hzl rfl
      obtain ⟨⟨A, X, Y⟩, hqt⟩ : ∃ c, (cutsAt s lo hi).getD z (0, 0, 0) = c := ⟨_, rfl⟩
      rw [hqt] at c0 c1 c2 e0 e1 e2
      dsimp only at c0 c1 c2 e0 e1 e2
      clear hqt HQ HS
      have x5 : (z : Int) < (u : Int) := by omega
      go_wp2_with fail
      go_quiet (fail)
      go_wp2
      go_roundw
      case rel => exact ⟨z + 1, by omega, by go_num, below_drewN HBy.out nq⟩
      case measure => simp [intOf]; omega
  obtain rfl : z = u := by omega
  have HR9 : Hid (wy.ownsRow w.heap.size 43 3 (.slice (some ⟨gb, 0, none⟩) z z) z (cutCells (cutsAt s lo hi))) := own_on HR8.out HBy.out
  have HB9 : Hid (Below w.heap.size w wy) := bthen HB8.out HBy.out
  clear HR8 HB8 HS8 HBy hzl hz
  go_wp2_with fail
  refine (buildEdges_is b o n c s tx ty wy hn (fun k hk => (HS.out k hk).on HB9.out)).mono ?_
  rintro e wF ⟨gf, rfl, hF, hbF⟩
  have hgl := own_lt hF (by omega : 0 < n)
  have HF : Hid (wF.ownsRow wy.heap.size 63 8 (.slice (some ⟨gf, 0, none⟩) n n) n (rowOf (n * 8) (edgeT s tx ty))) := hF
  have HBf : Hid (Below wy.heap.size wy wF) := hbF
  clear hF hbF
  go_wp2_with fail
  refine (meett tx ty lo hi i j wF.heap.size (.slice none 0 0) 0 [] hn h1 h2 HF.out K1.out K2.out t0 t1 (World.ownsRow_nil _ _ _ _) (Nat.le_refl _) (by omega) hgl HAB.out).mono ?_
  rintro e wP ⟨v4, rfl, ho4, hb4⟩
  rw [Nat.zero_add, List.nil_append, HM.out] at ho4
  have HO4 : Hid (wP.ownsRow wF.heap.size 66 3 v4 z (cutCells ((cutsAt s lo hi).map (shift tx ty)))) := ho4
  have HMm : Hid (((cutsAt s lo hi).map (shift tx ty)).length = z) := by show List.length _ = _; rw [List.length_map]; exact HM.out
  have HBp : Hid (Below wy.heap.size wy wP) := bthen HBf.out hb4
  have hszF := (bthen HB9.out HBf.out).size
  clear ho4 hb4 HF HBf
  go_wp2_with fail
  refine (cutsOf_is wF.heap.size v4 z ((cutsAt s lo hi).map (shift tx ty)) wP HO4.out HMm.out (by omega)).mono ?_
  rintro e wT ⟨rfl, hoT, hbT⟩
  have HRt : Hid (wT.ownsRow w.heap.size 43 3 (.slice (some ⟨gb, 0, none⟩) z z) z (cutCells (cutsAt s lo hi))) := own_on (own_on HR9.out HBp.out) hbT
  have HBt : Hid (Below w.heap.size w wT) := bthen HB9.out (bthen HBp.out hbT)
  have HTt : Hid (wT.ownsRow w.heap.size 43 3 (.slice (some ⟨wP.heap.size, 0, none⟩) z z) z (cutCells ((cutsAt s lo hi).map (shift tx ty)))) := own_base hoT (bthen HB9.out HBp.out).size
  obtain ⟨gt, hgt⟩ : ∃ gt, wP.heap.size = gt := ⟨_, rfl⟩
  rw [hgt] at HTt ⊢
  clear hoT hbT hgt HO4 HBp HR9 HB9 hgl hszF
  go_wp2_with fail
  go_loopw [23] (fun k wz => ∃ v : Nat, v ≤ z ∧ k = .int .i64 v ∧ Hid (Below wT.heap.size wT wz)) (fun k _ => z - (intOf k).toNat)
  case atStart => exact ⟨0, Nat.zero_le _, rfl, Below.refl _ _⟩
  case round =>
  rename World => wz
  obtain ⟨v, hv, rfl, HBz⟩ := hrel
  by_cases hvl : v < z
  · as_aux_lemma =>
      obtain ⟨c0, c1, c2⟩ := cut_of (own_on HRt.out HBz.out) HM.out v hvl rfl
      obtain ⟨e0, e1, e2⟩ := cut_of (own_on HTt.out HBz.out) HMm.out v hvl (getD_map (by rw [HM.out]; exact hvl))
      have hbd := cuts_bd s lo hi K1.out K2.out _ (getD_in (k := v) (by rw [HM.out]; exact hvl))
      obtain ⟨⟨A, X, Y⟩, hqt⟩ : ∃ c, (cutsAt s lo hi).getD v (0, 0, 0) = c := ⟨_, rfl⟩
      rw [hqt] at c0 c1 c2 e0 e1 e2 hbd
      simp only [shift] at e0 e1 e2
      dsimp only at c0 c1 c2 e0 e1 e2 hbd
      clear hqt HQ HS
      have x5 : (v : Int) < (z : Int) := by omega
      have x6 : IntKind.i64.wrap (X + tx) = X + tx := wrap_in (by omega)
      have x7 : IntKind.i64.wrap (Y + ty) = Y + ty := wrap_in (by omega)
      have hlz : gb < wz.heap.size := World.block_lt_of_cell? _ _ c0
      have hlt : gt < wz.heap.size := World.block_lt_of_cell? _ _ e0
      go_wp2_with fail
      go_cut [24] (fun p wc => ∃ g : Nat, p = .pointer (some ⟨g, 0, none⟩) ∧ wc.cell? ⟨g, 0, none⟩ = some (.int .i64 A) ∧ wc.cell? ⟨g, 1, none⟩ = some (.int .i64 (X + tx)) ∧ wc.cell? ⟨g, 2, none⟩ = some (.int .i64 (Y + ty)) ∧ Hid (Below wz.heap.size wz wc))
      case first =>
        go_region_held3 (fun w' => w'.cell? ⟨gb, v * 3, none⟩ = some (.int .i64 A) ∧ w'.cell? ⟨gb, v * 3 + 1, none⟩ = some (.int .i64 X) ∧ w'.cell? ⟨gb, v * 3 + 2, none⟩ = some (.int .i64 Y))
          (go_keep)
          (fail)
        all_goals
          go_wp2_with fail
          go_meet
          case rel =>
            exact ⟨wz.heap.size, rfl, cell_made _ _ _ 0 _ rfl, cell_made _ _ _ 1 _ rfl, cell_made _ _ _ 2 _ rfl, ((Below.refl _ _).alloc (Nat.le_refl _) _).drew⟩
      case rest =>
      obtain ⟨g, rfl, d0, d1, d2, HBd⟩ := hcut
      have e0' := cell_on HBd.out e0
      have e1' := cell_on HBd.out e1
      have e2' := cell_on HBd.out e2
      go_wp2_with fail
      go_quiet (fail)
      go_wp2
      go_roundw
      case rel => exact ⟨v + 1, by omega, by go_num, below_drewN (bthen HBz.out HBd.out) nq⟩
      case measure => simp [intOf]; omega
  obtain rfl : v = z := by omega
  go_wp2_with fail
  go_ret
  exact ⟨rfl, bthen HBt.out HBz.out⟩

end Go.Proofs.Qxb6609068a.Small
