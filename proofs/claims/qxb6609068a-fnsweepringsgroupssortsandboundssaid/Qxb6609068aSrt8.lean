/-
  sort.partialInsertionSort_func, with a 'less' that lays blocks.
-/
import Derived.Test.Qxb6609068aSrt3
import Derived.Sort.WalkA6
import Derived.Sort.LotA
import Derived.Deep.DeepCutAuto
namespace Go.Proofs.Qxb6609068a.Srt
open Go.Shelf Go.RowKit Go.Lib Go.Sort
set_option linter.unusedVariables false
set_option linter.unusedSimpArgs false
variable {α : Type} [Inhabited α] {enc : α → Value} {lt : α → α → Bool} {lb : Array Value} {sf : Nat} {sb : Array Value} {blk off size : Nat} {w0 : World}

theorem pi_end {a b i : Nat} {d : Array α} : partialIns lt a b (5 - 5) i d = (d, false) := rfl
theorem pi_yes {a b s i : Nat} {d : Array α} (hs : s < 5) (hK : scanSorted lt d b i = b) : partialIns lt a b (5 - s) i d = (d, true) := by
  rw [show 5 - s = (4 - s) + 1 by omega, partialIns_succ, if_pos hK]
theorem pi_no {a b s i i2 : Nat} {d : Array α} (hs : s < 5) (hK : scanSorted lt d b i = i2) (hne : i2 ≠ b) (h50 : b - a < 50) : partialIns lt a b (5 - s) i d = (d, false) := by
  rw [show 5 - s = (4 - s) + 1 by omega, partialIns_succ, hK, if_neg hne, if_pos h50]
theorem pi_on {a b s i i2 : Nat} {d : Array α} (hs : s < 5) (hK : scanSorted lt d b i = i2) (hne : i2 ≠ b) (h50 : ¬ b - a < 50) : partialIns lt a b (5 - s) i d = partialIns lt a b (5 - (s + 1)) i2 (fixUp lt b i2 (fixDown lt a i2 (swp d i2 (i2 - 1)))) := by
  rw [show 5 - s = (4 - s) + 1 by omega, partialIns_succ, hK, if_neg hne, if_neg h50, show 4 - s = 5 - (s + 1) by omega]

set_option maxHeartbeats 16000000 in
set_option maxRecDepth 100000 in
theorem partialInsertion_is (C : Ctx enc lt lb sf sb blk off size w0) (a b : Nat) (d : Array α) (hd : d.size = size) (W : World) (hW : SW enc w0 blk off d W) (hab : a < b) (hb : b ≤ size) (d' : Array α) (r : Bool) (hm : partialInsertionSort lt d a b = (d', r)) :
    Calls Try.prog 73 #[dat lb sf sb, .int .i64 a, .int .i64 b] W fun e w' => e = .returned (.bool r) ∧ Hid (SW enc w0 blk off d' w') ∧ Hid (Kept blk W w') := by
  have HM : Hid (partialIns lt a b (5 - 0) (a + 1) d = (d', r)) := hm
  clear hm
  have hsz := C.hsz
  have hlt := C.le hW
  have HC : Hid (Ctx enc lt lb sf sb blk off size w0) := C
  have HW : Hid (SW enc w0 blk off d W) := hW
  clear C hW
  have eg := eg49
  go_enter Try.func73, Try.ntmps73
  go_wp2
  go_loopw [7, 8] (fun vi vs wr => ∃ (s i : Nat) (dk : Array α), vi = .int .i64 i ∧ vs = .int .i64 s ∧ s ≤ 5 ∧ a < i ∧ i ≤ b ∧ dk.size = size ∧ Hid (SW enc w0 blk off dk wr) ∧ Hid (Kept blk (W.alloc (datB lb sf sb)) wr) ∧
      Hid (partialIns lt a b (5 - s) i dk = (d', r))) (fun vi vs _ => 5 - (intOf vs).toNat)
  case atStart => exact ⟨0, a + 1, d, by go_num, rfl, by omega, by omega, by omega, hd, HW.out.alloc _, Kept.refl _ _, HM⟩
  case round =>
    obtain ⟨s, i, dk, rfl, rfl, hs, hai, hib, hsk, HS, HK, HO⟩ := hrel
    by_cases hs5 : s < 5
    · have hs5i : (s : Int) < 5 := by omega
      go_wp2
      go_loopw [7] (fun vi wr => ∃ i2 : Nat, vi = .int .i64 i2 ∧ i ≤ i2 ∧ i2 ≤ b ∧ Hid (SW enc w0 blk off dk wr) ∧ Hid (Kept blk (W.alloc (datB lb sf sb)) wr) ∧
          Hid (scanSorted lt dk b i2 = scanSorted lt dk b i)) (fun vi _ => b - (intOf vi).toNat)
      case atStart => exact ⟨i, rfl, Nat.le_refl _, hib, HS, HK, rfl⟩
      case round =>
        obtain ⟨i2, rfl, hi2, hi2b, HSa, HKa, HU⟩ := hrel
        clear HS HK
        obtain ⟨c0, c1⟩ := box_at lb sf sb HKa.out hlt
        by_cases hlb : i2 < b
        · cases hl : lt dk[i2]! dk[i2 - 1]! with
          | false =>
            go_wp2_with (go_at_fn 49; refine (HC.out.lessI HSa.out hsk (i2) (i2 - 1) (by omega) (by omega) (by omega) (by omega) hl).mono ?_; rintro e w2 ⟨rfl, hS, hK⟩; have HSa : Hid (SW enc w0 blk off dk w2) := hS; have HKa : Hid (Kept blk (W.alloc (datB lb sf sb)) w2) := HKa.out.trans hK.out; clear hS hK; obtain ⟨b0w2, b1w2⟩ := box_at lb sf sb HKa.out hlt)
            go_roundw
            case rel => exact ⟨i2 + 1, by go_num, by omega, by omega, HSa, HKa, by show _ = _; rw [← HU.out, scanSorted_go lt dk b i2 hlb hl]⟩
            case measure => simp [intOf]; omega
          | true =>
            have HI : Hid (scanSorted lt dk b i = i2) := by
              show _ = i2
              rw [← HU.out, scanSorted_stop lt dk b i2 (.inr hl)]
            clear HU
            have hnb : (i2 : Int) ≠ (b : Int) := by omega
            by_cases h50 : b - a < 50
            · go_wp2_with (go_at_fn 49; refine (HC.out.lessI HSa.out hsk (i2) (i2 - 1) (by omega) (by omega) (by omega) (by omega) hl).mono ?_; rintro e w2 ⟨rfl, hS, hK⟩; have HSa : Hid (SW enc w0 blk off dk w2) := hS; have HKa : Hid (Kept blk (W.alloc (datB lb sf sb)) w2) := HKa.out.trans hK.out; clear hS hK; obtain ⟨b0w2, b1w2⟩ := box_at lb sf sb HKa.out hlt)
              go_ret
              have e := HO.out
              rw [pi_no hs5 HI.out (by omega) h50] at e
              simp only [Prod.mk.injEq] at e
              obtain ⟨h1, h2⟩ := e
              subst h1; subst h2
              exact ⟨rfl, HSa, HKa.out.ofAlloc⟩
            · have h50i : ¬ (b : Int) - (a : Int) < 50 := by omega
              by_cases hdn : 2 ≤ i2 - a
              · have hdni : 2 ≤ (i2 : Int) - (a : Int) := by omega
                go_wp2_with (go_at_fn 49; refine (HC.out.lessI HSa.out hsk (i2) (i2 - 1) (by omega) (by omega) (by omega) (by omega) hl).mono ?_; rintro e w2 ⟨rfl, hS, hK⟩; have HSa : Hid (SW enc w0 blk off dk w2) := hS; have HKa : Hid (Kept blk (W.alloc (datB lb sf sb)) w2) := HKa.out.trans hK.out; clear hS hK; obtain ⟨b0w2, b1w2⟩ := box_at lb sf sb HKa.out hlt)
                refine HC.out.uponSwap HSa.out hsk i2 (i2 - 1) (by omega) (by omega) (by omega) (by omega) ?_
                intro w4 HS4 HK4
                have HK5 : Hid (Kept blk (W.alloc (datB lb sf sb)) w4) := HKa.out.trans HK4.out
                clear HK4
                obtain ⟨d0, d1⟩ := box_at lb sf sb HK5.out hlt
                have hs4 : (swp dk i2 (i2 - 1)).size = size := by rw [size_swp]; exact hsk
                go_wp2
                go_loopw [9] (fun vj wr => ∃ (j : Nat) (dj : Array α), vj = .int .i64 j ∧ j ≤ i2 - 1 ∧ dj.size = size ∧ Hid (SW enc w0 blk off dj wr) ∧ Hid (Kept blk (W.alloc (datB lb sf sb)) wr) ∧
                    Hid (shiftDown lt j dj = shiftDown lt (i2 - 1) (swp dk i2 (i2 - 1)))) (fun vj _ => (intOf vj).toNat)
                case atStart => exact ⟨i2 - 1, _, by congr 1; omega, Nat.le_refl _, hs4, HS4, HK5, rfl⟩
                case round =>
                  obtain ⟨j, dj, rfl, hj1, hsj, HSb, HKb, HD⟩ := hrel
                  clear HS4 HK5
                  obtain ⟨c0, c1⟩ := box_at lb sf sb HKb.out hlt
                  by_cases hj0 : 1 ≤ j
                  · have hj0i : 1 ≤ (j : Int) := by omega
                    cases hl2 : lt dj[j]! dj[j - 1]! with
                    | true =>
                      go_wp2_with (go_at_fn 49; refine (HC.out.lessI HSb.out hsj (j) (j - 1) (by omega) (by omega) (by omega) (by omega) hl2).mono ?_; rintro e w5 ⟨rfl, hS, hK⟩; have HSb : Hid (SW enc w0 blk off dj w5) := hS; have HKb : Hid (Kept blk (W.alloc (datB lb sf sb)) w5) := HKb.out.trans hK.out; clear hS hK; obtain ⟨b0w5, b1w5⟩ := box_at lb sf sb HKb.out hlt)
                      refine HC.out.uponSwap HSb.out hsj j (j - 1) (by omega) (by omega) (by omega) (by omega) ?_
                      intro w6 HS6 HK6
                      go_wp2
                      go_roundw
                      case rel => exact ⟨j - 1, _, by congr 1; omega, by omega, by rw [size_swp]; exact hsj, HS6, HKb.out.trans HK6.out, by show _ = _; rw [← HD.out, shiftDown_go lt j dj hj0 hl2]⟩
                      case measure => simp [intOf]; omega
                    | false =>
                      have HX : Hid (dj = fixDown lt a i2 (swp dk i2 (i2 - 1))) := by
                        show dj = _
                        unfold fixDown
                        rw [if_pos hdn, ← HD.out, shiftDown_stop lt j dj (.inr hl2)]
                      by_cases hu : 2 ≤ b - i2
                      · have hui : 2 ≤ (b : Int) - (i2 : Int) := by omega
                        go_wp2_with (go_at_fn 49; refine (HC.out.lessI HSb.out hsj (j) (j - 1) (by omega) (by omega) (by omega) (by omega) hl2).mono ?_; rintro e w5 ⟨rfl, hS, hK⟩; have HSb : Hid (SW enc w0 blk off dj w5) := hS; have HKb : Hid (Kept blk (W.alloc (datB lb sf sb)) w5) := HKb.out.trans hK.out; clear hS hK; obtain ⟨b0w5, b1w5⟩ := box_at lb sf sb HKb.out hlt)
                        go_loopw [10] (fun vj wr => ∃ (j : Nat) (de : Array α), vj = .int .i64 j ∧ i2 + 1 ≤ j ∧ j ≤ b ∧ de.size = size ∧ Hid (SW enc w0 blk off de wr) ∧ Hid (Kept blk (W.alloc (datB lb sf sb)) wr) ∧
                            Hid (shiftUp lt b j de = shiftUp lt b (i2 + 1) dj)) (fun vj _ => b - (intOf vj).toNat)
                        case atStart => exact ⟨i2 + 1, dj, by go_num, Nat.le_refl _, by omega, hsj, HSb, HKb, rfl⟩
                        case round =>
                          obtain ⟨j, de, rfl, hj1, hj2, hse, HSe, HKe, HE⟩ := hrel
                          obtain ⟨c0, c1⟩ := box_at lb sf sb HKe.out hlt
                          by_cases hjb : j < b
                          · cases hl3 : lt de[j]! de[j - 1]! with
                            | true =>
                              go_wp2_with (go_at_fn 49; refine (HC.out.lessI HSe.out hse (j) (j - 1) (by omega) (by omega) (by omega) (by omega) hl3).mono ?_; rintro e w7 ⟨rfl, hS, hK⟩; have HSe : Hid (SW enc w0 blk off de w7) := hS; have HKe : Hid (Kept blk (W.alloc (datB lb sf sb)) w7) := HKe.out.trans hK.out; clear hS hK; obtain ⟨b0w7, b1w7⟩ := box_at lb sf sb HKe.out hlt)
                              refine HC.out.uponSwap HSe.out hse j (j - 1) (by omega) (by omega) (by omega) (by omega) ?_
                              intro w8 HS8 HK8
                              go_wp2
                              go_roundw
                              case rel => exact ⟨j + 1, _, by go_num, by omega, by omega, by rw [size_swp]; exact hse, HS8, HKe.out.trans HK8.out, by show _ = _; rw [← HE.out, shiftUp_go lt b j de hjb hl3]⟩
                              case measure => simp [intOf]; omega
                            | false =>
                              go_wp2_with (go_at_fn 49; refine (HC.out.lessI HSe.out hse (j) (j - 1) (by omega) (by omega) (by omega) (by omega) hl3).mono ?_; rintro e w7 ⟨rfl, hS, hK⟩; have HSe : Hid (SW enc w0 blk off de w7) := hS; have HKe : Hid (Kept blk (W.alloc (datB lb sf sb)) w7) := HKe.out.trans hK.out; clear hS hK; obtain ⟨b0w7, b1w7⟩ := box_at lb sf sb HKe.out hlt)
                              go_roundw
                              case rel => exact ⟨s + 1, i2, _, by first | rfl | go_num, by first | rfl | go_num, by omega, by omega, by omega, hse, HSe, HKe, by show _ = _; rw [← HO.out, pi_on hs5 HI.out (by omega) h50, show fixUp lt b i2 (fixDown lt a i2 (swp dk i2 (i2 - 1))) = de from by rw [← HX.out]; unfold fixUp; rw [if_pos hu, ← HE.out, shiftUp_stop lt b j de (.inr hl3)]]⟩
                              case measure => simp [intOf]; omega
                          · go_wp2
                            go_roundw
                            case rel => exact ⟨s + 1, i2, _, by first | rfl | go_num, by first | rfl | go_num, by omega, by omega, by omega, hse, HSe, HKe, by show _ = _; rw [← HO.out, pi_on hs5 HI.out (by omega) h50, show fixUp lt b i2 (fixDown lt a i2 (swp dk i2 (i2 - 1))) = de from by rw [← HX.out]; unfold fixUp; rw [if_pos hu, ← HE.out, shiftUp_stop lt b j de (.inl hjb)]]⟩
                            case measure => simp [intOf]; omega
                      · have hui : ¬ 2 ≤ (b : Int) - (i2 : Int) := by omega
                        go_wp2_with (go_at_fn 49; refine (HC.out.lessI HSb.out hsj (j) (j - 1) (by omega) (by omega) (by omega) (by omega) hl2).mono ?_; rintro e w5 ⟨rfl, hS, hK⟩; have HSb : Hid (SW enc w0 blk off dj w5) := hS; have HKb : Hid (Kept blk (W.alloc (datB lb sf sb)) w5) := HKb.out.trans hK.out; clear hS hK; obtain ⟨b0w5, b1w5⟩ := box_at lb sf sb HKb.out hlt)
                        go_roundw
                        case rel => exact ⟨s + 1, i2, _, by first | rfl | go_num, by first | rfl | go_num, by omega, by omega, by omega, hsj, HSb, HKb, by show _ = _; rw [← HO.out, pi_on hs5 HI.out (by omega) h50, show fixUp lt b i2 (fixDown lt a i2 (swp dk i2 (i2 - 1))) = dj from by rw [← HX.out]; unfold fixUp; rw [if_neg hu]]⟩
                        case measure => simp [intOf]; omega
                  · have hj0i : ¬ 1 ≤ (j : Int) := by omega
                    have HX : Hid (dj = fixDown lt a i2 (swp dk i2 (i2 - 1))) := by
                      show dj = _
                      unfold fixDown
                      rw [if_pos hdn, ← HD.out, shiftDown_stop lt j dj (.inl (by omega))]
                    by_cases hu : 2 ≤ b - i2
                    · have hui : 2 ≤ (b : Int) - (i2 : Int) := by omega
                      go_wp2_with (fail)
                      go_loopw [10] (fun vj wr => ∃ (j : Nat) (de : Array α), vj = .int .i64 j ∧ i2 + 1 ≤ j ∧ j ≤ b ∧ de.size = size ∧ Hid (SW enc w0 blk off de wr) ∧ Hid (Kept blk (W.alloc (datB lb sf sb)) wr) ∧
                          Hid (shiftUp lt b j de = shiftUp lt b (i2 + 1) dj)) (fun vj _ => b - (intOf vj).toNat)
                      case atStart => exact ⟨i2 + 1, dj, by go_num, Nat.le_refl _, by omega, hsj, HSb, HKb, rfl⟩
                      case round =>
                        obtain ⟨j, de, rfl, hj1, hj2, hse, HSe, HKe, HE⟩ := hrel
                        obtain ⟨c0, c1⟩ := box_at lb sf sb HKe.out hlt
                        by_cases hjb : j < b
                        · cases hl3 : lt de[j]! de[j - 1]! with
                          | true =>
                            go_wp2_with (go_at_fn 49; refine (HC.out.lessI HSe.out hse (j) (j - 1) (by omega) (by omega) (by omega) (by omega) hl3).mono ?_; rintro e w7 ⟨rfl, hS, hK⟩; have HSe : Hid (SW enc w0 blk off de w7) := hS; have HKe : Hid (Kept blk (W.alloc (datB lb sf sb)) w7) := HKe.out.trans hK.out; clear hS hK; obtain ⟨b0w7, b1w7⟩ := box_at lb sf sb HKe.out hlt)
                            refine HC.out.uponSwap HSe.out hse j (j - 1) (by omega) (by omega) (by omega) (by omega) ?_
                            intro w8 HS8 HK8
                            go_wp2
                            go_roundw
                            case rel => exact ⟨j + 1, _, by go_num, by omega, by omega, by rw [size_swp]; exact hse, HS8, HKe.out.trans HK8.out, by show _ = _; rw [← HE.out, shiftUp_go lt b j de hjb hl3]⟩
                            case measure => simp [intOf]; omega
                          | false =>
                            go_wp2_with (go_at_fn 49; refine (HC.out.lessI HSe.out hse (j) (j - 1) (by omega) (by omega) (by omega) (by omega) hl3).mono ?_; rintro e w7 ⟨rfl, hS, hK⟩; have HSe : Hid (SW enc w0 blk off de w7) := hS; have HKe : Hid (Kept blk (W.alloc (datB lb sf sb)) w7) := HKe.out.trans hK.out; clear hS hK; obtain ⟨b0w7, b1w7⟩ := box_at lb sf sb HKe.out hlt)
                            go_roundw
                            case rel => exact ⟨s + 1, i2, _, by first | rfl | go_num, by first | rfl | go_num, by omega, by omega, by omega, hse, HSe, HKe, by show _ = _; rw [← HO.out, pi_on hs5 HI.out (by omega) h50, show fixUp lt b i2 (fixDown lt a i2 (swp dk i2 (i2 - 1))) = de from by rw [← HX.out]; unfold fixUp; rw [if_pos hu, ← HE.out, shiftUp_stop lt b j de (.inr hl3)]]⟩
                            case measure => simp [intOf]; omega
                        · go_wp2
                          go_roundw
                          case rel => exact ⟨s + 1, i2, _, by first | rfl | go_num, by first | rfl | go_num, by omega, by omega, by omega, hse, HSe, HKe, by show _ = _; rw [← HO.out, pi_on hs5 HI.out (by omega) h50, show fixUp lt b i2 (fixDown lt a i2 (swp dk i2 (i2 - 1))) = de from by rw [← HX.out]; unfold fixUp; rw [if_pos hu, ← HE.out, shiftUp_stop lt b j de (.inl hjb)]]⟩
                          case measure => simp [intOf]; omega
                    · have hui : ¬ 2 ≤ (b : Int) - (i2 : Int) := by omega
                      go_wp2_with (fail)
                      go_roundw
                      case rel => exact ⟨s + 1, i2, _, by first | rfl | go_num, by first | rfl | go_num, by omega, by omega, by omega, hsj, HSb, HKb, by show _ = _; rw [← HO.out, pi_on hs5 HI.out (by omega) h50, show fixUp lt b i2 (fixDown lt a i2 (swp dk i2 (i2 - 1))) = dj from by rw [← HX.out]; unfold fixUp; rw [if_neg hu]]⟩
                      case measure => simp [intOf]; omega
              · have hdni : ¬ 2 ≤ (i2 : Int) - (a : Int) := by omega
                go_wp2_with (go_at_fn 49; refine (HC.out.lessI HSa.out hsk (i2) (i2 - 1) (by omega) (by omega) (by omega) (by omega) hl).mono ?_; rintro e w2 ⟨rfl, hS, hK⟩; have HSa : Hid (SW enc w0 blk off dk w2) := hS; have HKa : Hid (Kept blk (W.alloc (datB lb sf sb)) w2) := HKa.out.trans hK.out; clear hS hK; obtain ⟨b0w2, b1w2⟩ := box_at lb sf sb HKa.out hlt)
                refine HC.out.uponSwap HSa.out hsk i2 (i2 - 1) (by omega) (by omega) (by omega) (by omega) ?_
                intro w4 HS4 HK4
                have HK5 : Hid (Kept blk (W.alloc (datB lb sf sb)) w4) := HKa.out.trans HK4.out
                clear HK4
                obtain ⟨d0, d1⟩ := box_at lb sf sb HK5.out hlt
                have hs4 : (swp dk i2 (i2 - 1)).size = size := by rw [size_swp]; exact hsk
                have HX : Hid (swp dk i2 (i2 - 1) = fixDown lt a i2 (swp dk i2 (i2 - 1))) := by
                  show _ = _
                  unfold fixDown
                  rw [if_neg hdn]
                by_cases hu : 2 ≤ b - i2
                · have hui : 2 ≤ (b : Int) - (i2 : Int) := by omega
                  go_wp2_with (fail)
                  go_loopw [10] (fun vj wr => ∃ (j : Nat) (de : Array α), vj = .int .i64 j ∧ i2 + 1 ≤ j ∧ j ≤ b ∧ de.size = size ∧ Hid (SW enc w0 blk off de wr) ∧ Hid (Kept blk (W.alloc (datB lb sf sb)) wr) ∧
                      Hid (shiftUp lt b j de = shiftUp lt b (i2 + 1) (swp dk i2 (i2 - 1)))) (fun vj _ => b - (intOf vj).toNat)
                  case atStart => exact ⟨i2 + 1, (swp dk i2 (i2 - 1)), by go_num, Nat.le_refl _, by omega, hs4, HS4, HK5, rfl⟩
                  case round =>
                    obtain ⟨j, de, rfl, hj1, hj2, hse, HSe, HKe, HE⟩ := hrel
                    obtain ⟨c0, c1⟩ := box_at lb sf sb HKe.out hlt
                    by_cases hjb : j < b
                    · cases hl3 : lt de[j]! de[j - 1]! with
                      | true =>
                        go_wp2_with (go_at_fn 49; refine (HC.out.lessI HSe.out hse (j) (j - 1) (by omega) (by omega) (by omega) (by omega) hl3).mono ?_; rintro e w7 ⟨rfl, hS, hK⟩; have HSe : Hid (SW enc w0 blk off de w7) := hS; have HKe : Hid (Kept blk (W.alloc (datB lb sf sb)) w7) := HKe.out.trans hK.out; clear hS hK; obtain ⟨b0w7, b1w7⟩ := box_at lb sf sb HKe.out hlt)
                        refine HC.out.uponSwap HSe.out hse j (j - 1) (by omega) (by omega) (by omega) (by omega) ?_
                        intro w8 HS8 HK8
                        go_wp2
                        go_roundw
                        case rel => exact ⟨j + 1, _, by go_num, by omega, by omega, by rw [size_swp]; exact hse, HS8, HKe.out.trans HK8.out, by show _ = _; rw [← HE.out, shiftUp_go lt b j de hjb hl3]⟩
                        case measure => simp [intOf]; omega
                      | false =>
                        go_wp2_with (go_at_fn 49; refine (HC.out.lessI HSe.out hse (j) (j - 1) (by omega) (by omega) (by omega) (by omega) hl3).mono ?_; rintro e w7 ⟨rfl, hS, hK⟩; have HSe : Hid (SW enc w0 blk off de w7) := hS; have HKe : Hid (Kept blk (W.alloc (datB lb sf sb)) w7) := HKe.out.trans hK.out; clear hS hK; obtain ⟨b0w7, b1w7⟩ := box_at lb sf sb HKe.out hlt)
                        go_roundw
                        case rel => exact ⟨s + 1, i2, _, by first | rfl | go_num, by first | rfl | go_num, by omega, by omega, by omega, hse, HSe, HKe, by show _ = _; rw [← HO.out, pi_on hs5 HI.out (by omega) h50, show fixUp lt b i2 (fixDown lt a i2 (swp dk i2 (i2 - 1))) = de from by rw [← HX.out]; unfold fixUp; rw [if_pos hu, ← HE.out, shiftUp_stop lt b j de (.inr hl3)]]⟩
                        case measure => simp [intOf]; omega
                    · go_wp2
                      go_roundw
                      case rel => exact ⟨s + 1, i2, _, by first | rfl | go_num, by first | rfl | go_num, by omega, by omega, by omega, hse, HSe, HKe, by show _ = _; rw [← HO.out, pi_on hs5 HI.out (by omega) h50, show fixUp lt b i2 (fixDown lt a i2 (swp dk i2 (i2 - 1))) = de from by rw [← HX.out]; unfold fixUp; rw [if_pos hu, ← HE.out, shiftUp_stop lt b j de (.inl hjb)]]⟩
                      case measure => simp [intOf]; omega
                · exact absurd (by omega) hu
        · have hbb : i2 = b := by omega
          have HI : Hid (scanSorted lt dk b i = b) := by
            show _ = b
            rw [← HU.out, scanSorted_stop lt dk b i2 (.inl hlb), hbb]
          clear HU
          subst hbb
          go_wp2
          go_ret
          have e := HO.out
          rw [pi_yes hs5 HI.out] at e
          simp only [Prod.mk.injEq] at e
          obtain ⟨h1, h2⟩ := e
          subst h1; subst h2
          exact ⟨rfl, HSa, HKa.out.ofAlloc⟩
    · obtain rfl : s = 5 := by omega
      go_wp2
      go_ret
      have e := HO.out
      rw [pi_end] at e
      simp only [Prod.mk.injEq] at e
      obtain ⟨h1, h2⟩ := e
      subst h1; subst h2
      exact ⟨rfl, HS, HK.out.ofAlloc⟩

end Go.Proofs.Qxb6609068a.Srt
