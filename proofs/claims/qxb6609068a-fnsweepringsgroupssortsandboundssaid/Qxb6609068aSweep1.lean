/-
  sweepRings, its first loop.
-/
import Derived.Test.Qxb6609068aRing
import Derived.Test.Qxb6609068aRingSort
import Derived.Deep.DeepCutAuto
import Derived.Deep.LoopGhost
import Derived.Deep.AppendLies
import Derived.BigRegion
namespace Go.Proofs.Qxb6609068a.Small
open Go.ChangeShapes Go.WideShapes Go.ChangeAt Go.RowKit
open Srt (Grew xy_is pnt)
set_option linter.unusedVariables false
set_option linter.unusedSimpArgs false
attribute [local go_sem ↓] Go.wp_at_zero Go.wp_at_succ

/-- what sweepRings reads of an edge -/
def EdgeRow (w : World) (ge : Nat) (s : Segs) (k : Nat) : Prop :=
  w.cell? ⟨ge, k * 8, none⟩ = some (.int .i64 (s.ax k)) ∧ w.cell? ⟨ge, k * 8 + 1, none⟩ = some (.int .i64 (s.ay k)) ∧ w.cell? ⟨ge, k * 8 + 2, none⟩ = some (.int .i64 (s.bx k)) ∧ w.cell? ⟨ge, k * 8 + 2 + 1, none⟩ = some (.int .i64 (s.by' k)) ∧ w.cell? ⟨ge, k * 8 + 4, none⟩ = some (.int .i64 (s.rg k))

theorem EdgeRow.under {w w' : World} {ge k base : Nat} {s : Segs} (h : EdgeRow w ge s k) (hb : Below base w w') (hlt : ge < base) : EdgeRow w' ge s k := by
  obtain ⟨h0, h1, h2, h3, h4⟩ := h
  exact ⟨by rw [hb.cell hlt, h0], by rw [hb.cell hlt, h1], by rw [hb.cell hlt, h2], by rw [hb.cell hlt, h3], by rw [hb.cell hlt, h4]⟩

theorem grew_below {A B : World} (h : Grew A B) : Below A.heap.size A B := by
  obtain ⟨q, os, rfl⟩ := h
  exact ⟨rfl, rfl, rfl, by simp [Sort.grow], fun k hk => by
    show ((A.drewN q).heap ++ os)[k]? = _
    rw [Array.getElem?_append_left (by exact hk)]; rfl⟩

theorem info57 : (Try.prog.info? 57).map (fun i => (i.zero, i.size, i.bytes)) = some (some (.agg #[.slice none 0 0, .int .i64 0, .slice none 0 0, .int .i64 0, .int .i64 0, .int .i64 0, .int .i64 0]), 7, 88) := by kernel_rfl
theorem info3 : (Try.prog.info? 3).map (fun i => (i.zero, i.size, i.bytes)) = some (some (.int .i64 0), 1, 8) := by kernel_rfl

theorem boxes_at (w : World) (a b : Value) (t t' : TypeId) : ((w.alloc (.cells #[a] t)).alloc (.cells #[b] t')).cell? ⟨w.heap.size, 0, none⟩ = some a ∧ ((w.alloc (.cells #[a] t)).alloc (.cells #[b] t')).cell? ⟨w.heap.size + 1, 0, none⟩ = some b := by
  constructor
  · exact cell_of_row _ _ 0 _ _ _ (heap_alloc2_old w _ _)
  · exact cell_of_row _ _ 0 _ _ _ (heap_alloc2_new w _ _)

/-- the cells of ring r, as the walk comes to them -/
theorem RingsAt.cells {base : Nat} {w : World} {g m c : Nat} {E : Nat → Value} {L : Nat → List Nat} {B : Nat → Nat → Int} (h : RingsAt base w (.slice (some ⟨g, 0, none⟩) m c) m E L B) (r : Nat) (hr : r < m) :
    w.cell? ⟨g, r * 7, none⟩ = some (E r) ∧ w.cell? ⟨g, r * 7 + 1, none⟩ = some (.int .i64 0) ∧ w.cell? ⟨g, r * 7 + 2, none⟩ = some nilS ∧ w.cell? ⟨g, r * 7 + 3, none⟩ = some (.int .i64 (B r 0)) ∧ w.cell? ⟨g, r * 7 + 3 + 1, none⟩ = some (.int .i64 (B r 1)) ∧ w.cell? ⟨g, r * 7 + 5, none⟩ = some (.int .i64 (B r 2)) ∧ w.cell? ⟨g, r * 7 + 5 + 1, none⟩ = some (.int .i64 (B r 3)) := by
  have k := fun j hj => own_rowOf h.row rfl j hj
  refine ⟨by rw [k _ (by omega), ringT0], by rw [k _ (by omega), ringT1], by rw [k _ (by omega), ringT2], ?_, ?_, ?_, ?_⟩
  · rw [k _ (by omega), show r * 7 + 3 = r * 7 + (3 + 0) by omega, ringT3 _ _ _ _ (by omega)]
  · rw [k _ (by omega), show r * 7 + 3 + 1 = r * 7 + (3 + 1) by omega, ringT3 _ _ _ _ (by omega)]
  · rw [k _ (by omega), show r * 7 + 5 = r * 7 + (3 + 2) by omega, ringT3 _ _ _ _ (by omega)]
  · rw [k _ (by omega), show r * 7 + 5 + 1 = r * 7 + (3 + 3) by omega, ringT3 _ _ _ _ (by omega)]

/-- the box that an edge is added to -/
def bx1 (s : Segs) (r i : Nat) : Nat → Nat → Int := fun k t => if k = r then (if es s.rg r i = [] then fst4 s i t else bxs s r i t) else bxs s k i t

theorem bx1_new {s : Segs} {r i m : Nat} (h : es s.rg r i = []) : ∀ k t, k < m → t < 4 → upd (upd (upd (upd (fun k => bxs s k i) r 0 (s.ax i)) r 1 (s.ay i)) r 2 (s.ax i)) r 3 (s.ay i) k t = bx1 s r i k t := by
  intro k t _ ht
  unfold bx1
  by_cases hk : k = r
  · rw [if_pos hk, if_pos h, hk]
    rcases (by omega : t = 0 ∨ t = 1 ∨ t = 2 ∨ t = 3) with rfl | rfl | rfl | rfl <;> simp [upd, fst4]
  · rw [if_neg hk]
    simp [upd, hk]
theorem bx1_old {s : Segs} {r i m : Nat} (h : ¬ es s.rg r i = []) : ∀ k t, k < m → t < 4 → bxs s k i t = bx1 s r i k t := by
  intro k t _ ht
  unfold bx1
  by_cases hk : k = r
  · rw [if_pos hk, if_neg h, hk]
  · rw [if_neg hk]

theorem es_next {rg : Nat → Int} {r i m : Nat} (h : rg i = (r : Int)) : ∀ k, k < m → (if k = r then es rg k i ++ [i] else es rg k i) = es rg k (i + 1) := by
  intro k _
  rw [es, h]
  by_cases hk : k = r
  · rw [if_pos hk, if_pos (by omega)]
  · rw [if_neg hk, if_neg (by omega)]

theorem RingsAt.putLo {base : Nat} {w : World} {g m c : Nat} {E : Nat → Value} {L : Nat → List Nat} {B : Nat → Nat → Int} (h : RingsAt base w (.slice (some ⟨g, 0, none⟩) m c) m E L B) (r : Nat) (hr : r < m) {z z' y y' : Int} (e : z = y) (e' : z' = y') :
    RingsAt base ((w.setCell ⟨g, r * 7 + 3, none⟩ (.int .i64 z)).setCell ⟨g, r * 7 + 3 + 1, none⟩ (.int .i64 z')).drew (.slice (some ⟨g, 0, none⟩) m c) m E L (upd (upd B r 0 y) r 1 y') := by
  subst e; subst e'
  have k := (h.putB r 0 hr (by omega) z).putB r 1 hr (by omega) z'
  exact ⟨k.row, k.eds, k.sep⟩
theorem RingsAt.putHi {base : Nat} {w : World} {g m c : Nat} {E : Nat → Value} {L : Nat → List Nat} {B : Nat → Nat → Int} (h : RingsAt base w (.slice (some ⟨g, 0, none⟩) m c) m E L B) (r : Nat) (hr : r < m) {z z' y y' : Int} (e : z = y) (e' : z' = y') :
    RingsAt base ((w.setCell ⟨g, r * 7 + 5, none⟩ (.int .i64 z)).setCell ⟨g, r * 7 + 5 + 1, none⟩ (.int .i64 z')).drew (.slice (some ⟨g, 0, none⟩) m c) m E L (upd (upd B r 2 y) r 3 y') := by
  subst e; subst e'
  have k := (h.putB r 2 hr (by omega) z).putB r 3 hr (by omega) z'
  exact ⟨k.row, k.eds, k.sep⟩

theorem bx_next {s : Segs} {r i m : Nat} (h : s.rg i = (r : Int)) : ∀ k t, k < m → t < 4 → upd (upd (upd (upd (bx1 s r i) r 0 (min (min (bx1 s r i r 0) (s.ax i)) (s.bx i))) r 1 (min (min (bx1 s r i r 1) (s.ay i)) (s.by' i))) r 2 (max (max (bx1 s r i r 2) (s.ax i)) (s.bx i))) r 3 (max (max (bx1 s r i r 3) (s.ay i)) (s.by' i)) k t = bxs s k (i + 1) t := by
  intro k t _ ht
  rw [bxs, h]
  by_cases hk : k = r
  · subst hk
    rw [if_pos rfl]
    rcases (by omega : t = 0 ∨ t = 1 ∨ t = 2 ∨ t = 3) with rfl | rfl | rfl | rfl <;> simp [upd, comb, bx1]
  · rw [if_neg (by omega)]
    simp [upd, hk, bx1]

theorem perm_next {M k : Nat} {L T : Nat → List Nat} {l : List Nat} {R : Nat → Nat → Prop} (h : ∀ j, j < M → (L j).Perm (T j) ∧ (j < k → (L j).Pairwise R)) (hl : l.Perm (L k) ∧ l.Pairwise R) :
    ∀ j, j < M → (if j = k then l else L j).Perm (T j) ∧ (j < k + 1 → (if j = k then l else L j).Pairwise R) := by
  intro j hj
  by_cases e : j = k
  · subst e
    rw [if_pos rfl]
    exact ⟨hl.1.trans (h j hj).1, fun _ => hl.2⟩
  · rw [if_neg e]
    exact ⟨(h j hj).1, fun h' => (h j hj).2 (by omega)⟩

theorem top_le {rg : Nat → Int} (M : Nat) : ∀ i, (∀ k, k < i → 0 ≤ rg k ∧ rg k < (M : Int)) → top rg i ≤ M
  | 0, _ => Nat.zero_le _
  | i + 1, h => by
    have h1 := top_le M i fun k hk => h k (by omega)
    have h2 := h i (by omega)
    rw [top]
    omega

/-- what sweepRings leaves: the rings, each with its edges in the order of where their spans start, and its box -/
def SweepPost (s : Segs) (n : Nat) (w : World) (e : Ending) (w' : World) : Prop :=
  ∃ (v : Value) (base : Nat) (E : Nat → Value) (L : Nat → List Nat), e = .returned v ∧ w.heap.size ≤ base ∧ RingsAt base w' v (top s.rg n) E L (fun k => bxs s k n) ∧
    (∀ j, j < top s.rg n → (L j).Perm (es s.rg j n) ∧ (L j).Pairwise (fun a b => min (s.ay a) (s.by' a) ≤ min (s.ay b) (s.by' b))) ∧ Below w.heap.size w w'

set_option maxRecDepth 100000 in
set_option maxHeartbeats 16000000 in
theorem sweep_is (ge n : Nat) (s : Segs) (w : World) (hn : n ≤ 8192) (hs : ∀ k, k < n → EdgeRow w ge s k) (hge : ge < w.heap.size) (hrg : ∀ k, k < n → 0 ≤ s.rg k ∧ s.rg k < 65536) :
    Calls Try.prog 37 #[.slice (some ⟨ge, 0, none⟩) n n, .func (.func 38) #[] #[]] w fun e w' => SweepPost s n w e w' := by
  have HS : Hid (∀ k, k < n → EdgeRow w ge s k) := hs
  have HRG : Hid (∀ k, k < n → 0 ≤ s.rg k ∧ s.rg k < 65536) := hrg
  clear hs hrg
  go_enter Try.func37, Try.ntmps37
  go_wp2
  have hbox := boxes_at w (.slice (some ⟨ge, 0, none⟩) n n) (.func (.func 38) #[] #[]) 36 75
  have hbel : Below w.heap.size w ((w.alloc (.cells #[.slice (some ⟨ge, 0, none⟩) n n] 36)).alloc (.cells #[.func (.func 38) #[] #[]] 75)) := ((Below.refl _ _).alloc (Nat.le_refl _) _).alloc (by simp) _
  have hsz2 : ((w.alloc (.cells #[.slice (some ⟨ge, 0, none⟩) n n] 36)).alloc (.cells #[.func (.func 38) #[] #[]] 75)).heap.size = w.heap.size + 2 := by simp
  generalize hw2 : ((w.alloc (.cells #[.slice (some ⟨ge, 0, none⟩) n n] 36)).alloc (.cells #[.func (.func 38) #[] #[]] 75)) = w2 at hbox hbel hsz2 ⊢
  have HS2 : Hid (∀ k, k < n → EdgeRow w2 ge s k) := fun k hk => (HS.out k hk).under hbel hge
  have HBX : Hid (w2.cell? ⟨w.heap.size, 0, none⟩ = some (.slice (some ⟨ge, 0, none⟩) n n) ∧ w2.cell? ⟨w.heap.size + 1, 0, none⟩ = some (.func (.func 38) #[] #[])) := hbox
  have HW2 : Hid (Below w.heap.size w w2) := hbel
  clear hbox hbel hw2 HS
  go_loopw [5, 17] (fun v i' wr => ∃ (i : Nat) (E : Nat → Value), i' = .int .i64 i ∧ i ≤ n ∧ Hid (∀ k, top s.rg i ≤ k → E k = nilS) ∧ Hid (RingsAt w2.heap.size wr v (top s.rg i) E (fun k => es s.rg k i) (fun k => bxs s k i)) ∧ Hid (Below w2.heap.size w2 wr)) (fun v i' _ => n - (intOf i').toNat)
  case atStart => exact ⟨0, fun _ => nilS, rfl, Nat.zero_le _, fun _ _ => rfl, ⟨World.ownsRow_nil _ _ _ _, fun k hk => absurd hk (Nat.not_lt_zero _), fun k j hk => absurd hk (Nat.not_lt_zero _)⟩, Below.refl _ _⟩
  case round =>
    obtain ⟨i, E, rfl, hin, HN, HR, HB⟩ := hrel
    by_cases hlt : i < n
    · obtain ⟨r, hr⟩ : ∃ r : Nat, s.rg i = (r : Int) := ⟨(s.rg i).toNat, by have := HRG.out i hlt; omega⟩
      have hr6 : r < 65536 := by have := HRG.out i hlt; omega
      obtain ⟨e0, e1, e2, e3, e4⟩ := (HS2.out i hlt).under HB.out (by omega)
      rw [hr] at e4
      have b0 : wr.cell? ⟨w.heap.size, 0, none⟩ = some (.slice (some ⟨ge, 0, none⟩) n n) := by rw [HB.out.cell (by rw [hsz2]; show w.heap.size < w.heap.size + 2; omega)]; exact HBX.out.1
      have htl : top s.rg i ≤ 65536 := top_le 65536 i fun k hk => HRG.out k (by omega)
      have htn : top s.rg (i + 1) = max (top s.rg i) (r + 1) := by rw [top, hr]; rfl
      obtain ⟨T, hT⟩ : ∃ T, T = top s.rg i := ⟨_, rfl⟩
      rw [← hT] at HN HR htl htn
      have HT : Hid (T = top s.rg i) := hT
      have HTN : Hid (top s.rg (i + 1) = max T (r + 1)) := htn
      have HRR : Hid (s.rg i = (r : Int)) := hr
      clear hT htn
      go_wp2
      go_loopg [5] (max T (r + 1) - T) (fun gk v wr => ∃ m : Nat, gk = max T (r + 1) - m ∧ T ≤ m ∧ m ≤ max T (r + 1) ∧ Hid (RingsAt w2.heap.size wr v m E (fun k => es s.rg k i) (fun k => bxs s k i)) ∧ Hid (Below w2.heap.size w2 wr))
      case atStart => exact ⟨T, rfl, Nat.le_refl _, Nat.le_max_left _ _, HR, HB⟩
      case round =>
        obtain ⟨m, hgk, hm1, hm2, HR1, HB1⟩ := hrel
        clear HR HB e0 e1 e2 e3 e4 b0
        obtain ⟨e0, e1, e2, e3, e4⟩ := (HS2.out i hlt).under HB1.out (by omega)
        rw [hr] at e4
        have b0 : wr.cell? ⟨w.heap.size, 0, none⟩ = some (.slice (some ⟨ge, 0, none⟩) n n) := by rw [HB1.out.cell (by rw [hsz2]; show w.heap.size < w.heap.size + 2; omega)]; exact HBX.out.1
        have b1 : wr.cell? ⟨w.heap.size + 1, 0, none⟩ = some (.func (.func 38) #[] #[]) := by rw [HB1.out.cell (by rw [hsz2]; show w.heap.size + 1 < w.heap.size + 2; omega)]; exact HBX.out.2
        obtain ⟨p, c, rfl, hmc⟩ := own_is HR1.out.row
        by_cases hmr : m ≤ r
        · have hmri : (m : Int) ≤ (r : Int) := by omega
          obtain ⟨i0, hi0, hz0, hz1, hz2⟩ := info_parts info57
          have hsz := HB1.out.size
          go_wp2_with (at_builtin; refine wpList_append_own_at _ rfl (.tmp 30) (.tmp 32) 52 rfl w2.heap.size 57 i0 _ 7 88 Try.underlying52 hi0 hz0 hz1 hz2 rfl (by decide) _ _ _ rfl (HR1.out.row.alloc _) ⟨wr.heap.size, 0, none⟩ 1 1 [nilS, .int .i64 0, nilS, .int .i64 0, .int .i64 0, .int .i64 0, .int .i64 0] rfl rfl (news_new wr _ 57) (by simp [Value.oneCell']) (by unfold maxLen; omega) (by omega) (by simp; omega) ?_; intro v' w3 hown hgrow _ hat; have HG : Hid (RingsAt w2.heap.size w3 v' (m + 1) E (fun k => es s.rg k i) (fun k => bxs s k i) ∧ Below w2.heap.size w2 w3) := ⟨HR1.out.more (HN.out m (by omega)) (es_above m i (by have := HT.out; omega)) (fun t _ => bxs_above m t i (by have := HT.out; omega)) hown hgrow, (HB1.out.alloc hsz _).grown hgrow (by simp; omega) (own_ge HR1.out.row)⟩; clear hown hgrow hat)
          go_roundg (max T (r + 1) - (m + 1))
          case measure => omega
          case rel => exact ⟨m + 1, rfl, by omega, by omega, HG.out.1, HG.out.2⟩
        · clear hgk
          have HMM : Hid (m = max T (r + 1)) := by show m = _; omega
          have hrm : r < m := by omega
          have hrmi : (r : Int) < (m : Int) := by omega
          have hnmr : ¬ (m : Int) ≤ (r : Int) := by omega
          obtain ⟨g, c', hv, hgb, hgl⟩ := own_some HR1.out.row (by omega)
          simp only [Value.slice.injEq, true_and] at hv
          obtain ⟨rfl, rfl⟩ := hv
          go_upto_region 9 with (fail)
          go_cut [9, 10] from 18 to 126 (fun x0 y0 wc => x0 = .int .i64 (s.ax i) ∧ y0 = .int .i64 (s.ay i) ∧ Hid (Grew wr wc))
          case first =>
            go_region_held3 (fun w' => w'.cell? ⟨w.heap.size + 1, 0, none⟩ = some (.func (.func 38) #[] #[]) ∧ w'.cell? ⟨ge, i * 8, none⟩ = some (.int .i64 (s.ax i)) ∧ w'.cell? ⟨ge, i * 8 + 1, none⟩ = some (.int .i64 (s.ay i)) ∧ w'.cell? ⟨ge, i * 8 + 2, none⟩ = some (.int .i64 (s.bx i)) ∧ w'.cell? ⟨ge, i * 8 + 2 + 1, none⟩ = some (.int .i64 (s.by' i)))
              (first
                | go_keep
                | (go_split_ands; refine ⟨?_, ?_, ?_, ?_, ?_⟩ <;> (exact hg1.cell (by assumption))))
              (first | (go_at_call 38; refine (xy_is (s.ax i) (s.ay i) _).mono ?_; rintro e w1 ⟨rfl, hg1⟩))
            go_wp2_with fail
            go_meet
            case rel => exact ⟨rfl, rfl, (Grew.refl wr).drew.trans hg1⟩
          case rest =>
          obtain ⟨rfl, rfl, HG0⟩ := hcut
          have a0 := HG0.out.cell e0
          have a1 := HG0.out.cell e1
          have a2 := HG0.out.cell e2
          have a3 := HG0.out.cell e3
          have a4 := HG0.out.cell b1
          clear e0 e1 e2 e3 e4 b0 b1
          rename World => wc0
          go_wp2_with fail
          go_cut [11, 12] from 18 to 126 (fun x1 y1 wc => x1 = .int .i64 (s.bx i) ∧ y1 = .int .i64 (s.by' i) ∧ Hid (Grew wr wc))
          case first =>
            go_region_held3 (fun w' => w'.cell? ⟨w.heap.size + 1, 0, none⟩ = some (.func (.func 38) #[] #[]) ∧ w'.cell? ⟨ge, i * 8, none⟩ = some (.int .i64 (s.ax i)) ∧ w'.cell? ⟨ge, i * 8 + 1, none⟩ = some (.int .i64 (s.ay i)) ∧ w'.cell? ⟨ge, i * 8 + 2, none⟩ = some (.int .i64 (s.bx i)) ∧ w'.cell? ⟨ge, i * 8 + 2 + 1, none⟩ = some (.int .i64 (s.by' i)))
              (first
                | go_keep
                | (go_split_ands; refine ⟨?_, ?_, ?_, ?_, ?_⟩ <;> (exact hg2.cell (by assumption))))
              (first | (go_at_call 38; refine (xy_is (s.bx i) (s.by' i) _).mono ?_; rintro e w2 ⟨rfl, hg2⟩))
            go_wp2_with fail
            go_meet
            case rel => exact ⟨rfl, rfl, HG0.out.drew.trans hg2⟩
          case rest =>
            obtain ⟨rfl, rfl, HG⟩ := hcut
            have HR2 : Hid (RingsAt w2.heap.size wc (.slice (some ⟨g, 0, none⟩) m c) m E (fun k => es s.rg k i) (fun k => bxs s k i)) := HR1.out.on (grew_below HG.out)
            have HB2 : Hid (Below w2.heap.size w2 wc) := HB1.out.trans ((grew_below HG.out).mono HB1.out.size)
            clear HR1 HB1 HG HG0 a0 a1 a2 a3 a4
            obtain ⟨p', c', hE', _⟩ := own_is (HR2.out.eds r hrm)
            obtain ⟨z0, z1, z2, z3, z4, z5, z6⟩ := HR2.out.cells r hrm
            have f3 := HR2.out.row.frozenAt (r * 7 + 3)
            have f4 := HR2.out.row.frozenAt (r * 7 + 3 + 1)
            have f5 := HR2.out.row.frozenAt (r * 7 + 5)
            have f6 := HR2.out.row.frozenAt (r * 7 + 5 + 1)
            rw [hE'] at z0
            have hes : ((es s.rg r i).length : Int) = 0 ∨ 0 < ((es s.rg r i).length : Int) := by omega
            go_upto_if 63 with (fail)
            go_cut [] from 18 to 126 (fun wx => Hid (RingsAt w2.heap.size wx (.slice (some ⟨g, 0, none⟩) m c) m E (fun k => es s.rg k i) (bx1 s r i)) ∧ Hid (Below w2.heap.size w2 wx))
            case first =>
              by_cases hem : es s.rg r i = []
              · have hl0 : ((es s.rg r i).length : Int) = 0 := by rw [hem]; rfl
                have HEM : Hid (es s.rg r i = []) := hem
                clear hem
                go_wp2_with fail
                go_meet
                case rel => exact ⟨((((HR2.out.putB r 0 hrm (by omega) (s.ax i)).putB r 1 hrm (by omega) (s.ay i)).putB r 2 hrm (by omega) (s.ax i)).putB r 3 hrm (by omega) (s.ay i)).congr (fun _ _ => rfl) (bx1_new HEM.out), (((HB2.out.setCell hgb _).setCell hgb _).setCell hgb _).setCell hgb _⟩
              · have hl0 : ¬ ((es s.rg r i).length : Int) = 0 := by
                  intro h
                  exact hem (List.length_eq_zero_iff.1 (by omega))
                have HEM : Hid (¬ es s.rg r i = []) := hem
                clear hem
                go_wp2_with fail
                go_meet
                case rel => exact ⟨HR2.out.congr (fun _ _ => rfl) (bx1_old HEM.out), HB2⟩
            case rest =>
              obtain ⟨HR3, HB3⟩ := hcut
              clear HR2 HB2 z0 z1 z2 z3 z4 z5 z6 f3 f4 f5 f6
              obtain ⟨i0, hi0, hz0, hz1, hz2⟩ := info_parts info3
              have hsz := HB3.out.size
              have hel := es_len (rg := s.rg) (k := r) i
              have y0 : wc.cell? ⟨g, r * 7, none⟩ = some (.slice p' (es s.rg r i).length c') := by rw [(HR3.out.cells r hrm).1, hE']
              have HOE : Hid (wc.ownsRow w2.heap.size 3 1 (.slice p' (es s.rg r i).length c') (es s.rg r i).length (ixs (es s.rg r i))) := by
                have h := HR3.out.eds r hrm
                rw [hE'] at h
                exact h
              have HEr : Hid (E r = .slice p' (es s.rg r i).length c') := hE'
              clear hE'
              go_upto_region 14 with (at_builtin; refine wpList_append_own_at _ rfl (.tmp 80) (.tmp 82) 49 rfl w2.heap.size 3 i0 _ 1 8 Try.underlying49 hi0 hz0 hz1 hz2 rfl (by decide) _ _ _ rfl (HOE.out.alloc _) ⟨wc.heap.size, 0, none⟩ 1 1 [.int .i64 (i : Int)] rfl rfl (news_new wc _ 3) (by simp [Value.oneCell']) (by unfold maxLen; omega) (by omega) (by simp; omega) ?_; intro v' w3 hown hgrow _ hat; obtain ⟨p2, c2, rfl, _⟩ := own_is hown; have HA : Hid (RingsAt w2.heap.size (w3.setCell ⟨g, r * 7, none⟩ (.slice p2 ((es s.rg r i).length + 1) c2)) (.slice (some ⟨g, 0, none⟩) m c) m (fun k => if k = r then .slice p2 ((es s.rg r i).length + 1) c2 else E k) (fun k => if k = r then es s.rg k i ++ [i] else es s.rg k i) (bx1 s r i)) := HR3.out.add r i hrm hown (by rw [HEr.out]; exact hgrow) (by rw [HEr.out]; exact hat); have hrow3 := (HR3.out.row.alloc (.cells #[.int .i64 (i : Int)] 3)).kept hgrow (own_apart HR3.out.row HOE.out (by decide)); have y1 := own_rowOf hrow3 rfl (r * 7) (by omega); have y2 := hrow3.frozenAt (r * 7); have HBA : Hid (Below w2.heap.size w2 w3) := (HB3.out.alloc hsz _).grown hgrow (by simp; omega) (own_ge HOE.out); clear hown hgrow hat hrow3)
              have HB4 : Hid (Below w2.heap.size w2 (w3.setCell ⟨g, r * 7, none⟩ (.slice p2 ((es s.rg r i).length + 1) c2))) := HBA.out.setCell hgb _
              generalize w3.setCell ⟨g, r * 7, none⟩ (.slice p2 ((es s.rg r i).length + 1) c2) = w4 at HA HB4 ⊢
              obtain ⟨E', hE2⟩ : ∃ E' : Nat → Value, E' = fun k => if k = r then .slice p2 ((es s.rg r i).length + 1) c2 else E k := ⟨_, rfl⟩
              rw [← hE2] at HA
              have HN2 : Hid (∀ k, top s.rg (i + 1) ≤ k → E' k = nilS) := by
                intro k hk
                have h1 := HTN.out
                rw [hE2]
                show (if k = r then _ else E k) = _
                rw [if_neg (by omega)]
                exact HN.out k (by omega)
              have HR4 : Hid (RingsAt w2.heap.size w4 (.slice (some ⟨g, 0, none⟩) m c) m E' (fun k => es s.rg k (i + 1)) (bx1 s r i)) := HA.out.congr (es_next HRR.out) (fun _ _ _ _ => rfl)
              clear HA hE2 HBA y0 y1 y2 HOE HEr HR3 HB3 HN
              obtain ⟨z0, z1, z2, z3, z4, z5, z6⟩ := HR4.out.cells r hrm
              have f3 := HR4.out.row.frozenAt (r * 7 + 3)
              have f4 := HR4.out.row.frozenAt (r * 7 + 3 + 1)
              go_cut [] from 18 to 126 (fun wx => Hid (RingsAt w2.heap.size wx (.slice (some ⟨g, 0, none⟩) m c) m E' (fun k => es s.rg k (i + 1)) (upd (upd (bx1 s r i) r 0 (min (min (bx1 s r i r 0) (s.ax i)) (s.bx i))) r 1 (min (min (bx1 s r i r 1) (s.ay i)) (s.by' i)))) ∧ Hid (Below w2.heap.size w2 wx))
              case first =>
                go_region
                all_goals go_wp2_with fail
                all_goals
                  go_meet
                  case rel => exact ⟨HR4.out.putLo r hrm (by omega) (by omega), ((HB4.out.setCell hgb _).setCell hgb _).drew⟩
              case rest =>
                obtain ⟨HR5, HB5⟩ := hcut
                clear HR4 HB4 z0 z1 z2 z3 z4 z5 z6 f3 f4
                obtain ⟨z0, z1, z2, z3, z4, z5, z6⟩ := HR5.out.cells r hrm
                have f5 := HR5.out.row.frozenAt (r * 7 + 5)
                have f6 := HR5.out.row.frozenAt (r * 7 + 5 + 1)
                rw [show upd (upd (bx1 s r i) r 0 (min (min (bx1 s r i r 0) (s.ax i)) (s.bx i))) r 1 (min (min (bx1 s r i r 1) (s.ay i)) (s.by' i)) r 2 = bx1 s r i r 2 by simp [upd]] at z5
                rw [show upd (upd (bx1 s r i) r 0 (min (min (bx1 s r i r 0) (s.ax i)) (s.bx i))) r 1 (min (min (bx1 s r i r 1) (s.ay i)) (s.by' i)) r 3 = bx1 s r i r 3 by simp [upd]] at z6
                clear z0 z1 z2 z3 z4
                go_wp2_with fail
                go_region
                all_goals go_wp2_with fail
                all_goals
                  go_roundw
                  case rel => exact ⟨i + 1, E', by go_num, by omega, HN2, by rw [HTN.out, ← HMM.out]; exact (HR5.out.putHi r hrm (y := max (max (bx1 s r i r 2) (s.ax i)) (s.bx i)) (y' := max (max (bx1 s r i r 3) (s.ay i)) (s.by' i)) (by omega) (by omega)).congr (fun _ _ => rfl) (bx_next HRR.out), ((HB5.out.setCell hgb _).setCell hgb _).drew⟩
                  case measure => simp [intOf]; omega
    · obtain rfl : i = n := by omega
      obtain ⟨M, hM⟩ : ∃ M, M = top s.rg i := ⟨_, rfl⟩
      have htl : top s.rg i ≤ 65536 := top_le 65536 i fun k hk => HRG.out k hk
      have hpos : 0 < M → 0 < i := by
        intro h
        rcases Nat.eq_zero_or_pos i with h0 | h0
        · rw [hM, h0] at h; cases h
        · exact h0
      rw [← hM] at HR htl
      have HM : Hid (M = top s.rg i) := hM
      clear hM HN
      obtain ⟨p, c, rfl, hmc⟩ := own_is HR.out.row
      go_wp2
      go_loopw [129] (fun k' wr => ∃ (k : Nat) (L : Nat → List Nat), k' = .int .i64 k ∧ k ≤ M ∧ Hid (∀ j, j < M → (L j).Perm (es s.rg j i) ∧ (j < k → (L j).Pairwise (fun a b => min (s.ay a) (s.by' a) ≤ min (s.ay b) (s.by' b)))) ∧ Hid (RingsAt w2.heap.size wr (.slice p M c) M E L (fun k => bxs s k i)) ∧ Hid (Below w2.heap.size w2 wr)) (fun k' _ => M - (intOf k').toNat)
      case atStart => exact ⟨0, _, rfl, Nat.zero_le _, fun j _ => ⟨List.Perm.refl _, fun h => absurd h (Nat.not_lt_zero _)⟩, HR, HB⟩
      case round =>
        obtain ⟨k, L, rfl, hkM, HL, HR1, HB1⟩ := hrel
        clear HR HB
        by_cases hk : k < M
        · obtain ⟨g, c', hv, hgb, hgl⟩ := own_some HR1.out.row (by omega)
          simp only [Value.slice.injEq, true_and] at hv
          obtain ⟨rfl, rfl⟩ := hv
          have hsz1 := HB1.out.size
          obtain ⟨p', c', hE, _⟩ := own_is (HR1.out.eds k hk)
          have z0 := (HR1.out.cells k hk).1
          rw [hE] at z0
          have hki : (k : Int) < (M : Int) := by omega
          have hc := ring_sort (hpos (by omega)) hn s (w.heap.size + 1) w.heap.size ge k HR1.out hk (fun x hx => (es_lt i x (((HL.out k hk).1).mem_iff.1 hx)).1)
            (by rw [((HL.out k hk).1).length_eq]; have := es_len (rg := s.rg) (k := k) i; omega) HB1.out.size
            (by rw [HB1.out.cell (by rw [hsz2]; show w.heap.size + 1 < w.heap.size + 2; omega)]; exact HBX.out.2)
            (by rw [HB1.out.cell (by rw [hsz2]; show w.heap.size < w.heap.size + 2; omega)]; exact HBX.out.1)
            (fun j hj => by
              obtain ⟨a0, a1, a2, a3, _⟩ := (HS2.out j hj).under HB1.out (by omega)
              exact ⟨a0, a1, a2, a3⟩) (by omega) (by omega) (by omega)
          rw [hE] at hc
          have HCC : Hid (Calls Try.prog 48 #[.iface 49 (.slice p' (L k).length c'), .func (.func 49) #[] #[.pointer (some ⟨w.heap.size + 1, 0, none⟩), .pointer (some ⟨w.heap.size, 0, none⟩), .pointer (some ⟨wr.heap.size, 0, none⟩)]] (wr.alloc (.cells #[.slice p' (L k).length c'] 49)) fun e w' =>
            e = .returned (.tuple #[]) ∧ ∃ l : List Nat, l.Perm (L k) ∧ l.Pairwise (fun a b => min (s.ay a) (s.by' a) ≤ min (s.ay b) (s.by' b)) ∧ RingsAt w2.heap.size w' (.slice (some ⟨g, 0, none⟩) M c) M E (fun j => if j = k then l else L j) (fun k => bxs s k i) ∧ Below w2.heap.size wr w') := hc
          clear hc hE
          go_wp2_with (go_at_call 48; refine Calls.mono HCC.out ?_; rintro e w3 ⟨rfl, l, hp, hpw, hR3, hB3⟩; have HP3 : Hid (l.Perm (L k) ∧ l.Pairwise (fun a b => min (s.ay a) (s.by' a) ≤ min (s.ay b) (s.by' b))) := ⟨hp, hpw⟩; have HR3 : Hid (RingsAt w2.heap.size w3 (.slice (some ⟨g, 0, none⟩) M c) M E (fun j => if j = k then l else L j) (fun k => bxs s k i)) := hR3; have HB3 : Hid (Below w2.heap.size wr w3) := hB3; clear hp hpw hR3 hB3)
          go_roundw
          case rel => exact ⟨k + 1, _, by go_num, by omega, perm_next HL.out HP3.out, HR3, HB1.out.trans HB3.out⟩
          case measure => simp [intOf]; omega
        · obtain rfl : k = M := by omega
          have hki : ¬ (k : Int) < (k : Int) := by omega
          go_wp2
          go_ret
          refine ⟨_, w2.heap.size, E, L, rfl, by omega, by rw [← HM.out]; exact HR1.out, fun j hj => ?_, HW2.out.trans (HB1.out.mono (by omega))⟩
          rw [← HM.out] at hj
          exact ⟨(HL.out j hj).1, (HL.out j hj).2 hj⟩

end Go.Proofs.Qxb6609068a.Small
