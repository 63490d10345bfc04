/-
  sort.pdqsort_func, with a 'less' that lays blocks.
-/
import Derived.Test.Qxb6609068aSrt6
import Derived.Test.Qxb6609068aSrt7
import Derived.Test.Qxb6609068aSrt8
import Derived.Test.Qxb6609068aSrt9
import Derived.Deep.DeepCutAuto
namespace Go.Proofs.Qxb6609068a.Srt
open Go.Shelf Go.RowKit Go.Lib Go.Sort
set_option linter.unusedVariables false
set_option linter.unusedSimpArgs false
variable {α : Type} [Inhabited α] {enc : α → Value} {lt : α → α → Bool} {lb : Array Value} {sf : Nat} {sb : Array Value} {blk off size : Nat} {w0 : World}

theorem hintN_two {h : Hint} (e : hintN h = 2) : h = .decreasing := by cases h <;> simp [hintN] at e ⊢

set_option maxHeartbeats 16000000 in
set_option maxRecDepth 1000000 in
theorem pdq_is (C : Ctx enc lt lb sf sb blk off size w0) (hO : SWO lt) : ∀ (N a b limit : Nat) (x y z : Int) (d : Array α) (W : World), b - a < N → x = (a : Int) → y = (b : Int) → z = (limit : Int) → d.size = size → SW enc w0 blk off d W → a ≤ b → b ≤ size → limit < 4611686018427387904 → Go.Sort.Below lt a b d →
    Calls Try.prog 56 #[dat lb sf sb, .int .i64 x, .int .i64 y, .int .i64 z] W fun e w' => e = .returned (.tuple #[]) ∧ Hid (SW enc w0 blk off (pdq lt d a b limit true true) w') ∧ Hid (Kept blk W w') := by
  intro N
  induction N with
  | zero => intro _ _ _ _ _ _ _ _ h; exact absurd h (Nat.not_lt_zero _)
  | succ N ih =>
    intro a b limit x y z d W hN hx hy hz hd hW hab hb hlimit hBel0
    subst hx; subst hy; subst hz
    have hsz := C.hsz
    have hlt := C.le hW
    have HC : Hid (Ctx enc lt lb sf sb blk off size w0) := C
    have HW : Hid (SW enc w0 blk off d W) := hW
    have HB0 : Hid (Go.Sort.Below lt a b d) := hBel0
    have HO : Hid (SWO lt) := hO
    have IH : Hid (∀ (a b limit : Nat) (x y z : Int) (d : Array α) (W : World), b - a < N → x = (a : Int) → y = (b : Int) → z = (limit : Int) → d.size = size → SW enc w0 blk off d W → a ≤ b → b ≤ size → limit < 4611686018427387904 → Go.Sort.Below lt a b d →
      Calls Try.prog 56 #[dat lb sf sb, .int .i64 x, .int .i64 y, .int .i64 z] W fun e w' => e = .returned (.tuple #[]) ∧ Hid (SW enc w0 blk off (pdq lt d a b limit true true) w') ∧ Hid (Kept blk W w')) := ih
    clear hW hBel0 ih
    have eg := eg49
    go_enter Try.func56, Try.ntmps56
    go_wp2
    go_loopg [1, 2, 3, 8, 9] (b - a) (fun k s1 s2 s3 s8 s9 wr => ∃ (a' b' lim : Nat) (wb wp : Bool) (dk : Array α), s1 = .int .i64 a' ∧ s2 = .int .i64 b' ∧ s3 = .int .i64 lim ∧ s8 = .bool wb ∧ s9 = .bool wp ∧
      a' ≤ b' ∧ b' ≤ size ∧ b' - a' ≤ k ∧ k ≤ b - a ∧ lim ≤ limit ∧ dk.size = size ∧ Hid (Go.Sort.Below lt a' b' dk) ∧ Hid (SW enc w0 blk off dk wr) ∧ Hid (Kept blk (W.alloc (datB lb sf sb)) wr) ∧ Hid (pdq lt dk a' b' lim wb wp = pdq lt d a b limit true true))
    case atStart => exact ⟨a, b, limit, true, true, d, rfl, rfl, rfl, rfl, rfl, hab, hb, Nat.le_refl _, Nat.le_refl _, Nat.le_refl _, hd, HB0, HW.out.alloc _, Kept.refl _ _, rfl⟩
    case round =>
      obtain ⟨a', b', lim, wb, wp, dk, rfl, rfl, rfl, rfl, rfl, hab', hb', hk, hkN, hlim, hds, HBel, HS, HK, HE⟩ := hrel
      obtain ⟨x0, x1⟩ := box_at lb sf sb HK.out hlt
      by_cases h12 : b' - a' ≤ 12
      · have h12z : (b' : Int) - (a' : Int) ≤ 12 := by omega
        go_wp2_with (go_at_call 68; refine (insertionSort_is HC.out a' b' dk hds _ HS.out hab' hb').mono ?_; rintro e w1 ⟨rfl, hS1, hK1⟩)
        refine bodyPost_ret (results_none rfl _ _ _) rfl ⟨rfl, ?_, (HK.out.trans hK1).ofAlloc⟩
        rw [← HE.out, pdq_small h12]
        exact hS1
      · have h12z : ¬ ((b' : Int) - (a' : Int) ≤ 12) := by omega
        by_cases hl0 : lim = 0
        · subst hl0
          go_wp2_with (go_at_call 69; refine (heapSort_is HC.out a' b' dk hds _ HS.out hab' hb').mono ?_; rintro e w1 ⟨rfl, HS1, HK1⟩)
          refine bodyPost_ret (results_none rfl _ _ _) rfl ⟨rfl, ?_, (HK.out.trans HK1.out).ofAlloc⟩
          rw [← HE.out, pdq_heap h12 rfl]
          exact HS1
        · have hl0z : ¬ ((lim : Int) = 0) := by omega
          have F := rd_facts (lt := lt) (limit := lim) (wb := wb) (wp := wp) HO.out partialInsertionSort_holds reverseRange_holds (show a' < b' by omega) (show b' ≤ dk.size by omega) HBel.out
          have hle := rd_lim_le (lt := lt) (d := dk) (a := a') (b := b') (limit := lim) (wb := wb) (wp := wp)
          obtain ⟨R, hR⟩ : ∃ R, R = rd lt dk a' b' lim wb wp := ⟨_, rfl⟩
          rw [← hR] at F hle
          obtain ⟨s1, B1, hc1, s2, B2, hpv, s3, B3⟩ := F
          have HR : Hid (R = rd lt dk a' b' lim wb wp) := hR
          have HB3 : Hid (Go.Sort.Below lt a' b' R.pi.1) := B3
          clear hR B1 B2 B3
          rw [hds] at s1 s2 s3
          go_upto_if 35 with fail
          go_cut [3] from 19 (fun s3 wc => s3 = .int .i64 R.lim ∧ Hid (SW enc w0 blk off R.d1 wc) ∧ Hid (Kept blk (W.alloc (datB lb sf sb)) wc))
          case first =>
            cases wb
            · go_wp2_with (go_at_call 70; refine (breakPatterns_is HC.out a' b' dk hds _ HS.out hab' hb').mono ?_; rintro e w1 ⟨rfl, HS1, HK1⟩)
              go_meet
              case rel =>
                refine ⟨?_, by rw [HR.out]; exact HS1, HK.out.trans HK1.out⟩
                rw [HR.out]
                show Value.int .i64 ((lim : Int) - 1) = Value.int .i64 ((lim - 1 : Nat) : Int)
                congr 1
                omega
            · go_wp2_with fail
              go_meet
              case rel => exact ⟨by rw [HR.out]; rfl, by rw [HR.out]; exact HS, HK⟩
          case rest =>
            obtain ⟨rfl, HS1, HK1⟩ := hcut
            clear x0 x1 HS HK
            obtain ⟨y0, y1⟩ := box_at lb sf sb HK1.out hlt
            have hc17 : Calls Try.prog 71 #[dat lb sf sb, .int .i64 a', .int .i64 b'] wc fun e w' => e = .returned (.tuple #[.int .i64 (R.c.1 : Int), .int .i64 (hintN R.c.2)]) ∧ Hid (SW enc w0 blk off R.d1 w') ∧ Hid (Kept blk wc w') := by
              have h := choosePivot_is HC.out a' b' R.d1 s1 wc HS1.out (by omega) hb'
              rw [show choosePivot lt R.d1 a' b' = R.c from by rw [HR.out]; rfl] at h
              exact h
            go_upto_if 50 with (go_at_call 71; refine hc17.mono ?_; rintro e w2 ⟨rfl, hS2, hK2⟩; have HS2 : Hid (SW enc w0 blk off R.d1 w2) := hS2; have HK2 : Hid (Kept blk (W.alloc (datB lb sf sb)) w2) := HK1.out.trans hK2.out; clear hS2 hK2)
            clear y0 y1 hc17 HS1 HK1
            obtain ⟨z0, z1⟩ := box_at lb sf sb HK2.out hlt
            go_cut [11, 12] from 19 (fun s11 s12 wc => s11 = .int .i64 R.pivot ∧ s12 = .int .i64 (hintN R.hint) ∧ Hid (SW enc w0 blk off R.d2 wc) ∧ Hid (Kept blk (W.alloc (datB lb sf sb)) wc))
            case first =>
              by_cases hh : R.c.2 = .decreasing
              · have hcode : hintN R.c.2 = 2 := by rw [hh]; rfl
                have HD : Hid (R.d2 = reverseRange R.d1 a' b' ∧ R.pivot = (b' - 1) - (R.c.1 - a') ∧ R.hint = .increasing) := by
                  have hh' := hh
                  rw [HR.out] at hh' ⊢
                  exact rd_dec hh'
                go_wp2_with (go_at_call 72; refine (reverseRange_is HC.out a' b' R.d1 s1 _ HS2.out hab' hb').mono ?_; rintro e w3 ⟨rfl, HS3, HK3⟩)
                go_meet
                case rel =>
                  refine ⟨?_, by rw [HD.out.2.2]; rfl, by rw [HD.out.1]; exact HS3, HK2.out.trans HK3.out⟩
                  rw [HD.out.2.1]
                  congr 1
                  omega
              · have hcode : ¬ (hintN R.c.2 = 2) := fun h => hh (hintN_two h)
                have HD : Hid (R.d2 = R.d1 ∧ R.pivot = R.c.1 ∧ R.hint = R.c.2) := by
                  have hh' := hh
                  rw [HR.out] at hh' ⊢
                  exact rd_not hh'
                go_wp2_with fail
                go_meet
                case rel => exact ⟨by rw [HD.out.2.1], by rw [HD.out.2.2], by rw [HD.out.1]; exact HS2, HK2⟩
            case rest =>
              obtain ⟨rfl, rfl, HS3, HK3⟩ := hcut
              clear z0 z1 HS2 HK2
              obtain ⟨v0, v1⟩ := box_at lb sf sb HK3.out hlt
              go_upto_region 16 with fail
              go_cut [12, 68] from 19 (fun s12 s68 wx => s12 = .int .i64 (hintN R.hint) ∧ s68 = .bool (wb && wp && decide (R.hint = .increasing)) ∧ wx = wc)
              case first =>
                cases wb <;> cases wp <;> cases hh3 : R.hint <;>
                  (have hcode3 := congrArg hintN hh3
                   simp only [hintN] at hcode3
                   go_wp2_with fail
                   go_meet
                   exact ⟨by simp [hh3, hintN], by simp [hh3, hintN], rfl⟩)
              case rest =>
                obtain ⟨rfl, rfl, rfl⟩ := hcut
                go_upto_if 68 with fail
                go_cut [] from 19 (fun wx => R.pi.2 = false ∧ Hid (SW enc w0 blk off R.pi.1 wx) ∧ Hid (Kept blk (W.alloc (datB lb sf sb)) wx))
                case first =>
                  cases h68 : (wb && wp && decide (R.hint = .increasing))
                  · have HP : Hid (R.pi = (R.d2, false)) := by
                      have h := h68
                      rw [HR.out] at h ⊢
                      exact rd_pi_no h
                    go_wp2_with fail
                    go_meet
                    case rel => exact ⟨by rw [HP.out], by rw [HP.out]; exact HS3, HK3⟩
                  · have HP : Hid (partialInsertionSort lt R.d2 a' b' = (R.pi.1, R.pi.2)) := by
                      have h := h68
                      rw [HR.out] at h ⊢
                      show _ = _
                      rw [← rd_pi_yes h]
                    cases hp2 : R.pi.2
                    · rw [hp2] at HP
                      go_wp2_with (go_at_call 73; refine (partialInsertion_is HC.out a' b' R.d2 s2 _ HS3.out (by omega) hb' _ _ HP.out).mono ?_; rintro e w4 ⟨rfl, HS4, HK4⟩)
                      go_meet
                      case rel => exact ⟨by first | rfl | exact hp2, HS4, HK3.out.trans HK4.out⟩
                    · rw [hp2] at HP
                      go_wp2_with (go_at_call 73; refine (partialInsertion_is HC.out a' b' R.d2 s2 _ HS3.out (by omega) hb' _ _ HP.out).mono ?_; rintro e w4 ⟨rfl, HS4, HK4⟩)
                      refine bodyPost_ret (results_none rfl _ _ _) rfl ⟨rfl, ?_, (HK3.out.trans HK4.out).ofAlloc⟩
                      rw [← HE.out, pdq_done h12 hl0 (by rw [← HR.out]; exact hp2), ← HR.out]
                      exact HS4
                case rest =>
                  obtain ⟨hp2, HS5, HK5⟩ := hcut
                  clear v0 v1 HS3 HK3
                  obtain ⟨t0, t1⟩ := box_at lb sf sb HK5.out hlt
                  go_upto_region 18 with fail
                  go_cut [83] from 19 (fun s83 wx => s83 = .bool (decide (a' > 0) && !lt R.pi.1[a' - 1]! R.pi.1[R.pivot]!) ∧ Hid (SW enc w0 blk off R.pi.1 wx) ∧ Hid (Kept blk (W.alloc (datB lb sf sb)) wx))
                  case first =>
                    rcases Nat.eq_zero_or_pos a' with ha0 | ha0
                    · have ha0z : decide ((a' : Int) > 0) = false := decide_eq_false (by omega)
                      go_wp2_with fail
                      go_meet
                      case rel => exact ⟨by simp [ha0], HS5, HK5⟩
                    · have ha0z : (a' : Int) > 0 := by omega
                      cases hlv : lt R.pi.1[a' - 1]! R.pi.1[R.pivot]!
                      all_goals
                        go_wp2_with (go_at_fn 49; refine (HC.out.lessI HS5.out s3 (a' - 1) R.pivot (by omega) (by omega) (by omega) (by omega) hlv).mono ?_; rintro e w6 ⟨rfl, HS6, HK6⟩)
                        go_meet
                        case rel => exact ⟨by simp [ha0, hlv], HS6, HK5.out.trans HK6.out⟩
                  case rest =>
                    obtain ⟨rfl, HS6, HK6⟩ := hcut
                    clear t0 t1 HS5 HK5
                    obtain ⟨q0, q1⟩ := box_at lb sf sb HK6.out hlt
                    have hp2' : (rd lt dk a' b' lim wb wp).pi.2 = false := by rw [← HR.out]; exact hp2
                    have HP2 : Hid ((rd lt dk a' b' lim wb wp).pi.2 = false) := hp2'
                    clear hp2' hp2
                    cases h87 : (decide (a' > 0) && !lt R.pi.1[a' - 1]! R.pi.1[R.pivot]!)
                    · obtain ⟨mid, ap, d4, hx⟩ : ∃ mid ap d4, partition lt R.pi.1 a' b' R.pivot = (mid, ap, d4) := ⟨_, _, _, rfl⟩
                      obtain ⟨r1, r2, r3, r4, r5, r6, r7⟩ := round_part HO.out (partition_holds lt) hpv.1 hpv.2 (show b' ≤ R.pi.1.size by omega) HB3.out hx
                      have HX : Hid (partition lt R.pi.1 a' b' R.pivot = (mid, ap, d4)) := hx
                      have H87 : Hid ((decide (a' > 0) && !lt R.pi.1[a' - 1]! R.pi.1[R.pivot]!) = false) := h87
                      have H4 : Hid (Go.Sort.Below lt a' mid d4) := r4
                      have H5 : Hid (Go.Sort.Below lt (mid + 1) b' d4) := r5
                      have H6 : Hid (∀ L, PermIn a' mid d4 L → SortedIn lt a' mid L → Go.Sort.Below lt (mid + 1) b' L) := fun L h1 h2 => (r6 L h1 h2).1
                      have H7 : Hid (∀ L, PermIn (mid + 1) b' d4 L → SortedIn lt (mid + 1) b' L → Go.Sort.Below lt a' mid L) := fun L h1 h2 => (r7 L h1 h2).1
                      have hs4 : d4.size = size := r3.trans s3
                      clear hx h87 r4 r5 r6 r7 r3
                      go_upto_if 109 with (go_at_call 75; refine (partition_is HC.out a' b' R.pivot rfl R.pi.1 s3 _ HS6.out hpv.1 hpv.2 hb' mid ap d4 HX.out).mono ?_; rintro e w7 ⟨rfl, hS7, hK7⟩; have HS7 : Hid (SW enc w0 blk off d4 w7) := hS7; have HK7 : Hid (Kept blk (W.alloc (datB lb sf sb)) w7) := HK6.out.trans hK7.out; clear hS7 hK7)
                      clear q0 q1 HS6 HK6
                      obtain ⟨p0, p1⟩ := box_at lb sf sb HK7.out hlt
                      by_cases h4 : mid - a' < b' - mid
                      · have h4z : (mid : Int) - (a' : Int) < (b' : Int) - (mid : Int) := by omega
                        obtain ⟨pL, sL⟩ := pdq_sorts lt HO.out d4 a' mid R.lim true true (by omega) (by omega) H4.out
                        have HPL : Hid (PermIn a' mid d4 (pdq lt d4 a' mid R.lim true true)) := pL
                        have HSL : Hid (SortedIn lt a' mid (pdq lt d4 a' mid R.lim true true)) := sL
                        clear pL sL
                        go_wp2_with (go_at_call 56; refine (IH.out a' mid R.lim _ _ _ d4 _ (by omega) rfl rfl rfl hs4 HS7.out (by omega) (by omega) (by omega) H4.out).mono ?_; rintro e w8 ⟨rfl, HS8, HK8⟩)
                        go_roundg (b' - (mid + 1))
                        case measure => omega
                        case rel =>
                          refine ⟨mid + 1, b', R.lim, decide (mid - a' ≥ (b' - a') / 8), ap, pdq lt d4 a' mid R.lim true true, by go_num, rfl, rfl, ?_, rfl, by omega, by omega, Nat.le_refl _, by omega, by omega, by rw [HPL.out.1, hs4], H6.out _ HPL.out HSL.out, HS8, HK7.out.trans HK8.out, ?_⟩
                          · exact congrArg Value.bool (eighth (by omega) (by omega))
                          · show _ = _
                            have h87 := H87.out
                            have hx := HX.out
                            rw [HR.out] at h87 hx
                            rw [← HE.out, pdq_left h12 hl0 HP2.out h87 (by rw [hx]; exact ⟨r1, r2⟩) (by rw [hx]; exact h4), hx, HR.out]
                      · have h4z : ¬ ((mid : Int) - (a' : Int) < (b' : Int) - (mid : Int)) := by omega
                        obtain ⟨pL, sL⟩ := pdq_sorts lt HO.out d4 (mid + 1) b' R.lim true true (by omega) (by omega) H5.out
                        have HPL : Hid (PermIn (mid + 1) b' d4 (pdq lt d4 (mid + 1) b' R.lim true true)) := pL
                        have HSL : Hid (SortedIn lt (mid + 1) b' (pdq lt d4 (mid + 1) b' R.lim true true)) := sL
                        clear pL sL
                        go_wp2_with (go_at_call 56; refine (IH.out (mid + 1) b' R.lim _ _ _ d4 _ (by omega) (by omega) rfl rfl hs4 HS7.out (by omega) (by omega) (by omega) H5.out).mono ?_; rintro e w8 ⟨rfl, HS8, HK8⟩)
                        go_roundg (mid - a')
                        case measure => omega
                        case rel =>
                          refine ⟨a', mid, R.lim, decide (b' - mid ≥ (b' - a') / 8), ap, pdq lt d4 (mid + 1) b' R.lim true true, rfl, rfl, rfl, ?_, rfl, by omega, by omega, Nat.le_refl _, by omega, by omega, by rw [HPL.out.1, hs4], H7.out _ HPL.out HSL.out, HS8, HK7.out.trans HK8.out, ?_⟩
                          · exact congrArg Value.bool (eighth (by omega) (by omega))
                          · show _ = _
                            have h87 := H87.out
                            have hx := HX.out
                            rw [HR.out] at h87 hx
                            rw [← HE.out, pdq_right h12 hl0 HP2.out h87 (by rw [hx]; exact ⟨r1, r2⟩) (by rw [hx]; exact h4), hx, HR.out]
                    · have h87' := h87
                      simp only [Bool.and_eq_true, decide_eq_true_eq, Bool.not_eq_true'] at h87'
                      obtain ⟨mid, d4, hx⟩ : ∃ mid d4, partitionEqual lt R.pi.1 a' b' R.pivot = (mid, d4) := ⟨_, _, rfl⟩
                      obtain ⟨r1, r2, r3, r4, _⟩ := round_eq HO.out (partitionEqual_holds lt) h87'.1 hpv.1 hpv.2 (show b' ≤ R.pi.1.size by omega) HB3.out h87'.2 hx
                      have HX : Hid (partitionEqual lt R.pi.1 a' b' R.pivot = (mid, d4)) := hx
                      have H87 : Hid ((decide (a' > 0) && !lt R.pi.1[a' - 1]! R.pi.1[R.pivot]!) = true) := h87
                      have H4 : Hid (Go.Sort.Below lt mid b' d4) := r4
                      have hs4 : d4.size = size := r3.trans s3
                      clear hx h87 h87' r4 r3
                      go_wp2_with (go_at_call 74; refine (partitionEqual_is HC.out a' b' R.pivot rfl R.pi.1 s3 _ HS6.out hpv.1 hpv.2 hb' mid d4 HX.out).mono ?_; rintro e w7 ⟨rfl, HS7, HK7⟩)
                      go_roundg (b' - mid)
                      case measure => omega
                      case rel =>
                        refine ⟨mid, b', R.lim, wb, wp, d4, rfl, rfl, rfl, rfl, rfl, r2, hb', Nat.le_refl _, by omega, by omega, hs4, H4, HS7, HK6.out.trans HK7.out, ?_⟩
                        show _ = _
                        have h87 := H87.out
                        have hx := HX.out
                        rw [HR.out] at h87 hx
                        rw [← HE.out, pdq_eq h12 hl0 HP2.out h87 (by rw [hx]; exact ⟨r1, r2⟩), hx, HR.out]

end Go.Proofs.Qxb6609068a.Srt
