/-
  sort.partitionEqual_func, with a 'less' that lays blocks.
-/
import Derived.Test.Qxb6609068aSrt3
import Derived.Sort.WalkC
namespace Go.Proofs.Qxb6609068a.Srt
open Go.Shelf Go.RowKit Go.Lib Go.Sort
set_option linter.unusedVariables false
set_option linter.unusedSimpArgs false
variable {α : Type} [Inhabited α] {enc : α → Value} {lt : α → α → Bool} {lb : Array Value} {sf : Nat} {sb : Array Value} {blk off size : Nat} {w0 : World}

set_option maxHeartbeats 8000000 in
set_option maxRecDepth 100000 in
theorem partitionEqual_is (C : Ctx enc lt lb sf sb blk off size w0) (a b pivot : Nat) {z : Int} (hz : z = (pivot : Int)) (d : Array α) (hd : d.size = size) (W : World) (hW : SW enc w0 blk off d W) (ha : a ≤ pivot) (hp : pivot < b) (hb : b ≤ size) (mid : Nat) (d' : Array α) (hm : partitionEqual lt d a b pivot = (mid, d')) :
    Calls Try.prog 74 #[dat lb sf sb, .int .i64 a, .int .i64 b, .int .i64 z] W fun e w' => e = .returned (.int .i64 (mid : Int)) ∧ Hid (SW enc w0 blk off d' w') ∧ Hid (Kept blk W w') := by
  subst hz
  have HM : Hid (partEqLoop lt a (a + 1) (b - 1) (swp d a pivot) = (mid, d')) := hm
  clear hm
  have hsz := C.hsz
  have hlt := C.le hW
  have HC : Hid (Ctx enc lt lb sf sb blk off size w0) := C
  have HW : Hid (SW enc w0 blk off d W) := hW
  clear C hW
  have eg := eg49
  go_enter Try.func74, Try.ntmps74
  go_wp2
  refine HC.out.uponSwap (HW.out.alloc _) hd a pivot rfl rfl (by omega) (by omega) ?_
  intro w1 HS1 HK1
  have HKa : Hid (Kept blk (W.alloc (datB lb sf sb)) w1) := HK1
  clear HK1
  go_wp2
  go_loopw [9, 10] (fun vi vj wr => ∃ (i j : Nat) (dk : Array α), vi = .int .i64 i ∧ vj = .int .i64 j ∧ a < i ∧ i ≤ j + 1 ∧ j < b ∧ dk.size = size ∧ Hid (SW enc w0 blk off dk wr) ∧ Hid (Kept blk (W.alloc (datB lb sf sb)) wr) ∧
      Hid (partEqLoop lt a i j dk = (mid, d'))) (fun vi vj _ => (intOf vj + 1 - intOf vi).toNat)
  case atStart => exact ⟨a + 1, b - 1, _, by go_num, by congr 1; omega, by omega, by omega, by omega, by rw [size_swp]; exact hd, HS1, HKa, HM⟩
  case round =>
    obtain ⟨i, j, dk, rfl, rfl, hai, hij, hjb, hsk, HS, HK, HO⟩ := hrel
    clear HS1 HKa
    go_wp2
    go_loopw [9] (fun vi wr => ∃ i2 : Nat, vi = .int .i64 i2 ∧ i ≤ i2 ∧ i2 ≤ j + 1 ∧ Hid (SW enc w0 blk off dk wr) ∧ Hid (Kept blk (W.alloc (datB lb sf sb)) wr) ∧
        Hid (scanUp (fun x => !lt dk[a]! x) dk j i2 = scanUp (fun x => !lt dk[a]! x) dk j i)) (fun vi _ => j + 1 - (intOf vi).toNat)
    case atStart => exact ⟨i, rfl, Nat.le_refl _, hij, HS, HK, rfl⟩
    case round =>
      obtain ⟨i2, rfl, hi2, hi2j, HSa, HKb, HU⟩ := hrel
      clear HS HK
      obtain ⟨c0, c1⟩ := box_at lb sf sb HKb.out hlt
      by_cases hle : i2 ≤ j
      · cases hl : lt dk[a]! dk[i2]! with
        | false =>
          go_wp2_with (go_at_fn 49; refine (HC.out.lessI HSa.out hsk (a) (i2) (by omega) (by omega) (by omega) (by omega) hl).mono ?_; rintro e w2 ⟨rfl, hS, hK⟩; have HSa : Hid (SW enc w0 blk off dk w2) := hS; have HKb : Hid (Kept blk (W.alloc (datB lb sf sb)) w2) := HKb.out.trans hK.out; clear hS hK; obtain ⟨b0w2, b1w2⟩ := box_at lb sf sb HKb.out hlt)
          go_roundw
          case rel => exact ⟨i2 + 1, by go_num, by omega, by omega, HSa, HKb, by show _ = _; rw [← HU.out, scanUp_go _ _ _ _ hle (by simp [hl])]⟩
          case measure => simp [intOf]; omega
        | true =>
          have HI : Hid (i2 = scanUp (fun x => !lt dk[a]! x) dk j i) := by
            show i2 = _
            rw [← HU.out, scanUp_end _ _ _ _ (.inr (by simp [hl]))]
          clear HU
          go_wp2_with (go_at_fn 49; refine (HC.out.lessI HSa.out hsk (a) (i2) (by omega) (by omega) (by omega) (by omega) hl).mono ?_; rintro e w2 ⟨rfl, hS, hK⟩; have HSa : Hid (SW enc w0 blk off dk w2) := hS; have HKb : Hid (Kept blk (W.alloc (datB lb sf sb)) w2) := HKb.out.trans hK.out; clear hS hK; obtain ⟨b0w2, b1w2⟩ := box_at lb sf sb HKb.out hlt)
          go_loopw [10] (fun vj wr => ∃ j2 : Nat, vj = .int .i64 j2 ∧ j2 ≤ j ∧ i2 ≤ j2 + 1 ∧ Hid (SW enc w0 blk off dk wr) ∧ Hid (Kept blk (W.alloc (datB lb sf sb)) wr) ∧
              Hid (scanDown (fun x => lt dk[a]! x) dk i2 j2 = scanDown (fun x => lt dk[a]! x) dk i2 j)) (fun vj _ => (intOf vj).toNat)
          case atStart => exact ⟨j, rfl, Nat.le_refl _, by omega, HSa, HKb, rfl⟩
          case round =>
            obtain ⟨j2, rfl, hj2, hij2, HSc, HKc, HD⟩ := hrel
            clear HSa HKb
            obtain ⟨c0, c1⟩ := box_at lb sf sb HKc.out hlt
            by_cases hle2 : i2 ≤ j2
            · cases hl2 : lt dk[a]! dk[j2]! with
              | true =>
                go_wp2_with (go_at_fn 49; refine (HC.out.lessI HSc.out hsk (a) (j2) (by omega) (by omega) (by omega) (by omega) hl2).mono ?_; rintro e w3 ⟨rfl, hS, hK⟩; have HSc : Hid (SW enc w0 blk off dk w3) := hS; have HKc : Hid (Kept blk (W.alloc (datB lb sf sb)) w3) := HKc.out.trans hK.out; clear hS hK; obtain ⟨b0w3, b1w3⟩ := box_at lb sf sb HKc.out hlt)
                go_roundw
                case rel => exact ⟨j2 - 1, by congr 1; omega, by omega, by omega, HSc, HKc, by show _ = _; rw [← HD.out, scanDown_go _ _ _ _ hle2 (by omega) hl2]⟩
                case measure => simp [intOf]; omega
              | false =>
                have HJ : Hid (j2 = scanDown (fun x => lt dk[a]! x) dk i2 j) := by
                  show j2 = _
                  rw [← HD.out, scanDown_end _ _ _ _ (.inr hl2)]
                clear HD
                have hne : i2 ≠ j2 := by
                  intro h
                  rw [← h, hl] at hl2
                  cases hl2
                go_wp2_with (go_at_fn 49; refine (HC.out.lessI HSc.out hsk (a) (j2) (by omega) (by omega) (by omega) (by omega) hl2).mono ?_; rintro e w3 ⟨rfl, hS, hK⟩; have HSc : Hid (SW enc w0 blk off dk w3) := hS; have HKc : Hid (Kept blk (W.alloc (datB lb sf sb)) w3) := HKc.out.trans hK.out; clear hS hK; obtain ⟨b0w3, b1w3⟩ := box_at lb sf sb HKc.out hlt)
                refine HC.out.uponSwap HSc.out hsk i2 j2 (by omega) (by omega) (by omega) (by omega) ?_
                intro w4 HS4 HK4
                go_wp2
                go_roundw
                case rel => exact ⟨i2 + 1, j2 - 1, _, by go_num, by congr 1; omega, by omega, by omega, by omega, by rw [size_swp]; exact hsk, HS4, HKc.out.trans HK4.out, by show _ = _; rw [← partEq_go lt a i j dk HI.out HJ.out (by omega)]; exact HO.out⟩
                case measure => simp [intOf]; omega
            · have HJ : Hid (j2 = scanDown (fun x => lt dk[a]! x) dk i2 j) := by
                show j2 = _
                rw [← HD.out, scanDown_end _ _ _ _ (.inl hle2)]
              clear HD
              go_wp2
              go_ret
              have e := HO.out
              rw [partEq_break lt a i j dk HI.out HJ.out (by omega)] at e
              simp only [Prod.mk.injEq] at e
              obtain ⟨rfl, rfl⟩ := e
              exact ⟨rfl, HSc, HKc.out.ofAlloc⟩
      · have HI : Hid (i2 = scanUp (fun x => !lt dk[a]! x) dk j i) := by
          show i2 = _
          rw [← HU.out, scanUp_end _ _ _ _ (.inl hle)]
        have HJ : Hid (j = scanDown (fun x => lt dk[a]! x) dk i2 j) := by
          show j = _
          rw [scanDown_end _ _ _ _ (.inl hle)]
        clear HU
        go_wp2
        go_loopw [10] (fun vj wr => vj = .int .i64 j ∧ Hid (SW enc w0 blk off dk wr) ∧ Hid (Kept blk (W.alloc (datB lb sf sb)) wr)) (fun vj _ => 0)
        case atStart => exact ⟨rfl, HSa, HKb⟩
        case round =>
          obtain ⟨rfl, HSc, HKc⟩ := hrel
          clear HSa HKb
          obtain ⟨c0, c1⟩ := box_at lb sf sb HKc.out hlt
          go_wp2
          go_ret
          have e := HO.out
          rw [partEq_break lt a i j dk HI.out HJ.out (by omega)] at e
          simp only [Prod.mk.injEq] at e
          obtain ⟨rfl, rfl⟩ := e
          exact ⟨rfl, HSc, HKc.out.ofAlloc⟩

end Go.Proofs.Qxb6609068a.Srt
