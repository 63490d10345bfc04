/-
  THE WALK of FnMeetCutsWhereTheyCrossOrTouch, inside its bounds.
-/
import Derived.Test.Qxb6609068aLawA
import Derived.Test.Qxb6609068aTailIs
namespace Go.Proofs.Qxb6609068a.Small
open Go.ChangeShapes Go.WideShapes Go.ChangeAt Go.RowKit
set_option linter.unusedVariables false
attribute [local go_sem ↓] Go.wp_at_zero Go.wp_at_succ
attribute [local go_sem] run_store_float

theorem zzBytes12_yes (a1 a2 : Option Addr) (n c nc cc : Nat) (i j : Int) (w : World) (h : n ≤ 8192) (h' : nc ≤ 16384) :
    Calls Try.prog 12 #[.slice a1 n c, .int .i64 i, .int .i64 j, .slice a2 nc cc] w fun e w' => e = .returned (.bool true) ∧ w' = w := by
  go_enter Try.func12, Try.ntmps12
  go_wp2
  go_ret
  exact ⟨rfl, rfl⟩

set_option maxRecDepth 100000 in
set_option maxHeartbeats 20000000 in
theorem cuts_in (b o n c : Nat) (s : Segs) (ca : Option Addr) (nc cc : Nat) (q : Nat → Int × Int × Int) (i j lo hi : Nat) (w : World) (hn : n ≤ 8192) (hnc : nc ≤ 16384) (hs : ∀ k, k < n → SegAt w b o s k) (hq : CutRow w ca nc q)
    (hi' : i < n) (hj' : j < n) (b1 : segB (s.ax i) (s.ay i) (s.bx i) (s.by' i) = true) (b2 : segB (s.ax j) (s.ay j) (s.bx j) (s.by' j) = true)
    (h1 : lo ≤ hi) (hab : (i = lo ∧ j = hi) ∨ (i = hi ∧ j = lo)) :
    Calls Try.prog 5 #[.slice (some ⟨b, o, none⟩) n c, .int .i64 i, .int .i64 j, .slice ca nc cc] w fun e w' => e = .returned (.bool true) ∧ Below w.heap.size w w' := by
  have HS : Hid (∀ k, k < n → SegAt w b o s k) := hs
  have HQ : Hid (CutRow w ca nc q) := hq
  have B1 : Hid (segB (s.ax i) (s.ay i) (s.bx i) (s.by' i) = true) := b1
  have B2 : Hid (segB (s.ax j) (s.ay j) (s.bx j) (s.by' j) = true) := b2
  have K1 : Hid (SegIn s lo) := by
    rcases hab with ⟨rfl, rfl⟩ | ⟨rfl, rfl⟩
    · exact segIn_of b1
    · exact segIn_of b2
  have K2 : Hid (SegIn s hi) := by
    rcases hab with ⟨rfl, rfl⟩ | ⟨rfl, rfl⟩
    · exact segIn_of b2
    · exact segIn_of b1
  have HAB : Hid ((i = lo ∧ j = hi) ∨ (i = hi ∧ j = lo)) := hab
  have h2 : hi < n := by omega
  clear hs hq b1 b2 hab
  have x1 : (i : Int) < (n : Int) := by omega
  have x2 : (j : Int) < (n : Int) := by omega
  obtain ⟨c0, c1, c2, c3, c4, c5, c6, c7⟩ := HS.out i hi'
  have tok : True := trivial
  go_enter Try.func5, Try.ntmps5
  go_wp2_with (first
    | (go_at_call 12; refine (zzBytes12_yes _ _ _ _ _ _ _ _ _ hn hnc).mono ?_; rintro e w' ⟨rfl, hw⟩; subst w')
    | (go_at_call 13; have _t := tok; refine (segInRange_is (s.ax i) (s.ay i) (s.bx i) (s.by' i) (s.rg i) (s.ix i) (s.t0 i) (s.t1 i) true B1.out _).mono ?_; rintro e w1 ⟨rfl, hb1⟩; clear tok; obtain ⟨e0, e1, e2, e3, e4, e5, e6, e7⟩ := (HS.out j hj').on hb1)
    | (go_at_call 13; refine (segInRange_is (s.ax j) (s.ay j) (s.bx j) (s.by' j) (s.rg j) (s.ix j) (s.t0 j) (s.t1 j) true B2.out _).mono ?_; rintro e w2 ⟨rfl, hb2⟩))
  have HB2 : Hid (Below w.heap.size w w2) := bthen hb1 hb2
  clear c0 c1 c2 c3 c4 c5 c6 c7 e0 e1 e2 e3 e4 e5 e6 e7 hb1 hb2 B1 B2
  refine (buildEdges_is b o n c s 0 0 w2 hn (fun k hk => (HS.out k hk).on HB2.out)).mono ?_
  rintro e wE ⟨ge, rfl, hE, hbE⟩
  have hgl := own_lt hE (by omega : 0 < n)
  have HE : Hid (wE.ownsRow w.heap.size 63 8 (.slice (some ⟨ge, 0, none⟩) n n) n (rowOf (n * 8) (edgeT s 0 0))) := own_base hE HB2.out.size
  have HBe : Hid (Below w.heap.size w wE) := bthen HB2.out hbE
  clear hE hbE HB2
  go_wp2_with fail
  refine (buildCuts_is ca nc cc q wE hnc (HQ.out.on HBe.out)).mono ?_
  rintro e wG ⟨rfl, hoG, hbG⟩
  have HOG : Hid (wG.ownsRow wE.heap.size 66 3 (.slice (some ⟨wE.heap.size, 0, none⟩) nc nc) nc (cutCells (cutList nc q))) := hoG
  have hszG := hbG.size
  have HE4 : Hid (wG.ownsRow w.heap.size 63 8 (.slice (some ⟨ge, 0, none⟩) n n) n (rowOf (n * 8) (edgeT s 0 0))) := own_on HE.out hbG
  have HBG : Hid (Below wE.heap.size wE wG) := hbG
  clear hoG hbG
  go_wp2_with fail
  refine (meet0 lo hi i j wE.heap.size _ nc (cutList nc q) hn h1 h2 HE4.out K1.out K2.out HOG.out hszG (by omega) hgl HAB.out).mono ?_
  rintro e wM ⟨v2, rfl, ho2, hb2⟩
  obtain ⟨m, hm⟩ : ∃ m, (cutsAt s lo hi).length = m := ⟨_, rfl⟩
  have hm4 : m ≤ 4 := by rw [← hm]; exact new_le _ _ _ _ _ _ _ _ _ _
  have HM : Hid ((cutsAt s lo hi).length = m) := hm
  rw [hm] at ho2
  have HO2 : Hid (wM.ownsRow wE.heap.size 66 3 v2 (nc + m) (cutCells (cutList nc q ++ cutsAt s lo hi))) := ho2
  have HBm : Hid (Below wE.heap.size wE wM) := HBG.out.trans hb2
  have HLW : Hid ((cutList nc q ++ cutsAt s lo hi).length = nc + m) := by show List.length _ = _; rw [List.length_append, cutList_len, HM.out]
  clear ho2 hb2 HOG HE4 hszG HBG hm
  go_wp2_with fail
  refine (cutsOf_is wE.heap.size v2 (nc + m) (cutList nc q ++ cutsAt s lo hi) wM HO2.out HLW.out (by omega)).mono ?_
  rintro e wW ⟨rfl, hoW, hbW⟩
  have HB5 : Hid (Below w.heap.size w wW) := bthen HBe.out (bthen HBm.out hbW)
  have HW5 : Hid (wW.ownsRow w.heap.size 43 3 (.slice (some ⟨wM.heap.size, 0, none⟩) (nc + m) (nc + m)) (nc + m) (cutCells (cutList nc q ++ cutsAt s lo hi))) := own_base hoW (bthen HBe.out HBm.out).size
  obtain ⟨gw, hgw⟩ : ∃ gw, wM.heap.size = gw := ⟨_, rfl⟩
  rw [hgw] at HW5 ⊢
  clear hoW hbW hgw HO2 HBm HE HBe hgl
  have hlb : ¬ (((nc + m : Nat) : Int) < (nc : Int)) := by omega
  go_wp2_with fail
  clear hlb
  go_loopw [12] (fun k wr => ∃ t : Nat, t ≤ nc ∧ k = .int .i64 t ∧ Hid (Below wW.heap.size wW wr)) (fun k _ => nc - (intOf k).toNat)
  case atStart => exact ⟨0, Nat.zero_le _, rfl, Below.refl _ _⟩
  case round =>
  obtain ⟨t, ht, rfl, HBr⟩ := hrel
  by_cases htl : t < nc
  · as_aux_lemma =>
      obtain ⟨bc, oc, rfl, hc⟩ := HQ.out (by omega)
      obtain ⟨c0, c1, c2⟩ := hc t htl
      have c0' := cell_on (bthen HB5.out HBr.out) c0
      have c1' := cell_on (bthen HB5.out HBr.out) c1
      have c2' := cell_on (bthen HB5.out HBr.out) c2
      obtain ⟨e0, e1, e2⟩ := cut_of (own_on HW5.out HBr.out) HLW.out t (by omega) (getD_left (by rw [cutList_len]; exact htl))
      rw [getD_list htl] at e0 e1 e2
      obtain ⟨⟨A, X, Y⟩, hqt⟩ : ∃ c, q t = c := ⟨_, rfl⟩
      rw [hqt] at c0' c1' c2' e0 e1 e2
      dsimp only at c0' c1' c2' e0 e1 e2
      clear c0 c1 c2 hc hqt HQ HS
      have x5 : (t : Int) < (nc : Int) := by omega
      have x6 : (t : Int) < (nc : Int) + (m : Int) := by omega
      have x7 : (t : Int) < ((nc + m : Nat) : Int) := by omega
      go_wp2_with fail
      go_quiet (fail)
      go_wp2
      go_roundw
      case rel => exact ⟨t + 1, by omega, by go_num, below_drewN HBr.out nq⟩
      case measure => simp [intOf]; omega
  obtain rfl : t = nc := by omega
  have HW6 : Hid (wr.ownsRow w.heap.size 43 3 (.slice (some ⟨gw, 0, none⟩) (t + m) (t + m)) (t + m) (cutCells (cutList t q ++ cutsAt s lo hi))) := own_on HW5.out HBr.out
  have HB6 : Hid (Below w.heap.size w wr) := bthen HB5.out HBr.out
  clear HW5 HB5 HBr htl ht HQ
  go_upto_if 93 with (fail)
  go_cut [13, 14] (fun l h wc => l = .int .i64 lo ∧ h = .int .i64 hi ∧ Hid (Below wr.heap.size wr wc))
  case first =>
    by_cases hlt : lo < hi
    · rcases HAB.out with ⟨rfl, rfl⟩ | ⟨rfl, rfl⟩
      all_goals
        go_wp2_with fail
        go_meet
        case rel => exact ⟨rfl, rfl, Below.refl _ _⟩
    · obtain rfl : lo = hi := by omega
      obtain ⟨rfl, rfl⟩ : i = lo ∧ j = lo := by have := HAB.out; omega
      go_wp2_with fail
      go_meet
      case rel => exact ⟨rfl, rfl, Below.refl _ _⟩
  case rest =>
  obtain ⟨rfl, rfl, HBc⟩ := hcut
  go_wp2_with fail
  have HT : Hid (∀ k, k < m → wc.drew.cell? ⟨gw, t * 3 + k * 3, none⟩ = some (.int .i64 ((cutsAt s lo hi).getD k (0, 0, 0)).1) ∧ wc.drew.cell? ⟨gw, t * 3 + k * 3 + 1, none⟩ = some (.int .i64 ((cutsAt s lo hi).getD k (0, 0, 0)).2.1) ∧ wc.drew.cell? ⟨gw, t * 3 + k * 3 + 2, none⟩ = some (.int .i64 ((cutsAt s lo hi).getD k (0, 0, 0)).2.2)) := by
    intro k hk
    have hg := getD_right (l := cutList t q) (l' := cutsAt s lo hi) (k := k)
    rw [cutList_len] at hg
    obtain ⟨e0, e1, e2⟩ := cut_of (own_on HW6.out HBc.out) HLW.out (t + k) (by omega) hg
    rw [Nat.add_mul] at e0 e1 e2
    exact ⟨cell_on (Below.refl _ _).drew e0, cell_on (Below.refl _ _).drew e1, cell_on (Below.refl _ _).drew e2⟩
  obtain ⟨c0, c1, c2, c3, c4, c5, c6, c7⟩ := ((HS.out lo (by omega)).on HB6.out).on HBc.out
  obtain ⟨e0, e1, e2, e3, e4, e5, e6, e7⟩ := ((HS.out hi h2).on HB6.out).on HBc.out
  have hlt : b < wc.heap.size := World.block_lt_of_cell? _ _ c0
  have x3 : (lo : Int) < (n : Int) := by omega
  have x4 : (hi : Int) < (n : Int) := by omega
  by_cases hm0 : m = 0
  · subst hm0
    go_region_held3 (fun w' => w'.cell? ⟨b, o + lo * 8, none⟩ = some (.int .i64 (s.ax lo)) ∧ w'.cell? ⟨b, o + lo * 8 + 1, none⟩ = some (.int .i64 (s.ay lo)) ∧ w'.cell? ⟨b, o + lo * 8 + 2, none⟩ = some (.int .i64 (s.bx lo)) ∧ w'.cell? ⟨b, o + lo * 8 + 3, none⟩ = some (.int .i64 (s.by' lo)) ∧ w'.cell? ⟨b, o + lo * 8 + 4, none⟩ = some (.int .i64 (s.rg lo)) ∧ w'.cell? ⟨b, o + lo * 8 + 5, none⟩ = some (.int .i64 (s.ix lo)) ∧ w'.cell? ⟨b, o + lo * 8 + 6, none⟩ = some (.float .f64 (s.t0 lo)) ∧ w'.cell? ⟨b, o + lo * 8 + 7, none⟩ = some (.float .f64 (s.t1 lo)) ∧
        w'.cell? ⟨b, o + hi * 8, none⟩ = some (.int .i64 (s.ax hi)) ∧ w'.cell? ⟨b, o + hi * 8 + 1, none⟩ = some (.int .i64 (s.ay hi)) ∧ w'.cell? ⟨b, o + hi * 8 + 2, none⟩ = some (.int .i64 (s.bx hi)) ∧ w'.cell? ⟨b, o + hi * 8 + 3, none⟩ = some (.int .i64 (s.by' hi)) ∧ w'.cell? ⟨b, o + hi * 8 + 4, none⟩ = some (.int .i64 (s.rg hi)) ∧ w'.cell? ⟨b, o + hi * 8 + 5, none⟩ = some (.int .i64 (s.ix hi)) ∧ w'.cell? ⟨b, o + hi * 8 + 6, none⟩ = some (.float .f64 (s.t0 hi)) ∧ w'.cell? ⟨b, o + hi * 8 + 7, none⟩ = some (.float .f64 (s.t1 hi)))
      (first
        | go_keep
        | (go_split_ands; refine ⟨?_, ?_, ?_, ?_, ?_, ?_, ?_, ?_, ?_, ?_, ?_, ?_, ?_, ?_, ?_, ?_⟩ <;> (rw [hb1.cell (by simp; omega)]; assumption)))
      (first | (go_at_call 18; refine (tail_is s lo hi 0 gw 0 0 HM.out K1.out K2.out _ (fun k hk => by omega)).mono ?_; rintro e w1 ⟨rfl, hb1⟩))
    all_goals
      go_wp2_with fail
      go_ret
      exact ⟨rfl, bthen HB6.out (bthen HBc.out (bthen (Below.refl _ _).drew hb1))⟩
  · skip
    go_region_held3 (fun w' => w'.cell? ⟨b, o + lo * 8, none⟩ = some (.int .i64 (s.ax lo)) ∧ w'.cell? ⟨b, o + lo * 8 + 1, none⟩ = some (.int .i64 (s.ay lo)) ∧ w'.cell? ⟨b, o + lo * 8 + 2, none⟩ = some (.int .i64 (s.bx lo)) ∧ w'.cell? ⟨b, o + lo * 8 + 3, none⟩ = some (.int .i64 (s.by' lo)) ∧ w'.cell? ⟨b, o + lo * 8 + 4, none⟩ = some (.int .i64 (s.rg lo)) ∧ w'.cell? ⟨b, o + lo * 8 + 5, none⟩ = some (.int .i64 (s.ix lo)) ∧ w'.cell? ⟨b, o + lo * 8 + 6, none⟩ = some (.float .f64 (s.t0 lo)) ∧ w'.cell? ⟨b, o + lo * 8 + 7, none⟩ = some (.float .f64 (s.t1 lo)) ∧
        w'.cell? ⟨b, o + hi * 8, none⟩ = some (.int .i64 (s.ax hi)) ∧ w'.cell? ⟨b, o + hi * 8 + 1, none⟩ = some (.int .i64 (s.ay hi)) ∧ w'.cell? ⟨b, o + hi * 8 + 2, none⟩ = some (.int .i64 (s.bx hi)) ∧ w'.cell? ⟨b, o + hi * 8 + 3, none⟩ = some (.int .i64 (s.by' hi)) ∧ w'.cell? ⟨b, o + hi * 8 + 4, none⟩ = some (.int .i64 (s.rg hi)) ∧ w'.cell? ⟨b, o + hi * 8 + 5, none⟩ = some (.int .i64 (s.ix hi)) ∧ w'.cell? ⟨b, o + hi * 8 + 6, none⟩ = some (.float .f64 (s.t0 hi)) ∧ w'.cell? ⟨b, o + hi * 8 + 7, none⟩ = some (.float .f64 (s.t1 hi)))
      (first
        | go_keep
        | (go_split_ands; refine ⟨?_, ?_, ?_, ?_, ?_, ?_, ?_, ?_, ?_, ?_, ?_, ?_, ?_, ?_, ?_, ?_⟩ <;> (rw [hb1.cell (by simp; omega)]; assumption)))
      (first | (go_at_call 18; refine (tail_is s lo hi m gw (t * 3) m HM.out K1.out K2.out _ HT.out).mono ?_; rintro e w1 ⟨rfl, hb1⟩))
    all_goals
      go_wp2_with fail
      go_ret
      exact ⟨rfl, bthen HB6.out (bthen HBc.out (bthen (Below.refl _ _).drew hb1))⟩

end Go.Proofs.Qxb6609068a.Small
