/-
  sort.partition_func, with a 'less' that lays blocks.
-/
import Derived.Test.Qxb6609068aSrt3
import Derived.Sort.WalkC
namespace Go.Proofs.Qxb6609068a.Srt
open Go.Shelf Go.RowKit Go.Lib Go.Sort
set_option linter.unusedVariables false
set_option linter.unusedSimpArgs false
variable {α : Type} [Inhabited α] {enc : α → Value} {lt : α → α → Bool} {lb : Array Value} {sf : Nat} {sb : Array Value} {blk off size : Nat} {w0 : World}

theorem pl_break {a i j i2 j2 : Nat} {dk : Array α} (hi2 : i2 = scanUp (fun x => lt x dk[a]!) dk j i) (hj2 : j2 = scanDown (fun x => !lt x dk[a]!) dk i2 j) (h : j2 < i2) : partLoop lt a i j dk = (j2, dk) := by
  subst hi2; subst hj2
  rw [partLoop_eq, if_pos h]
theorem pl_go {a i j i2 j2 : Nat} {dk : Array α} (hi2 : i2 = scanUp (fun x => lt x dk[a]!) dk j i) (hj2 : j2 = scanDown (fun x => !lt x dk[a]!) dk i2 j) (h : ¬ i2 > j2) : partLoop lt a i j dk = partLoop lt a (i2 + 1) (j2 - 1) (swp dk i2 j2) := by
  subst hi2; subst hj2
  rw [partLoop_eq, if_neg h]
theorem pt_break {a b pivot i2 j2 : Nat} {d dk : Array α} (hdk : dk = swp d a pivot) (hi2 : i2 = scanUp (fun x => lt x dk[a]!) dk (b - 1) (a + 1)) (hj2 : j2 = scanDown (fun x => !lt x dk[a]!) dk i2 (b - 1)) (h : j2 < i2) : partition lt d a b pivot = (j2, true, swp dk j2 a) := by
  subst hdk; subst hi2; subst hj2
  unfold partition
  simp only
  rw [if_pos h]
theorem pt_go {a b pivot i2 j2 : Nat} {d dk : Array α} (hdk : dk = swp d a pivot) (hi2 : i2 = scanUp (fun x => lt x dk[a]!) dk (b - 1) (a + 1)) (hj2 : j2 = scanDown (fun x => !lt x dk[a]!) dk i2 (b - 1)) (h : ¬ i2 > j2) :
    partition lt d a b pivot = ((partLoop lt a (i2 + 1) (j2 - 1) (swp dk i2 j2)).1, false, swp (partLoop lt a (i2 + 1) (j2 - 1) (swp dk i2 j2)).2 (partLoop lt a (i2 + 1) (j2 - 1) (swp dk i2 j2)).1 a) := by
  subst hdk; subst hi2; subst hj2
  unfold partition
  simp only
  rw [if_neg h]

set_option maxHeartbeats 16000000 in
set_option maxRecDepth 100000 in
theorem partition_is (C : Ctx enc lt lb sf sb blk off size w0) (a b pivot : Nat) {z : Int} (hz : z = (pivot : Int)) (d : Array α) (hd : d.size = size) (W : World) (hW : SW enc w0 blk off d W) (ha : a ≤ pivot) (hp : pivot < b) (hb : b ≤ size) (mid : Nat) (ap : Bool) (d' : Array α) (hm : partition lt d a b pivot = (mid, ap, d')) :
    Calls Try.prog 75 #[dat lb sf sb, .int .i64 a, .int .i64 b, .int .i64 z] W fun e w' => e = .returned (.tuple #[.int .i64 (mid : Int), .bool ap]) ∧ Hid (SW enc w0 blk off d' w') ∧ Hid (Kept blk W w') := by
  subst hz
  have HM : Hid (partition lt d a b pivot = (mid, ap, d')) := hm
  clear hm
  have hsz := C.hsz
  have hlt := C.le hW
  have HC : Hid (Ctx enc lt lb sf sb blk off size w0) := C
  have HW : Hid (SW enc w0 blk off d W) := hW
  clear C hW
  have eg := eg49
  go_enter Try.func75, Try.ntmps75
  go_wp2
  refine HC.out.uponSwap (HW.out.alloc _) hd a pivot rfl rfl (by omega) (by omega) ?_
  intro w1 HS1 HK1
  have HKa : Hid (Kept blk (W.alloc (datB lb sf sb)) w1) := HK1
  clear HK1
  obtain ⟨dk, hdk⟩ : ∃ dk, dk = swp d a pivot := ⟨_, rfl⟩
  rw [← hdk] at HS1
  have hsk : dk.size = size := by rw [hdk, size_swp]; exact hd
  have HDK : Hid (dk = swp d a pivot) := hdk
  clear hdk
  go_wp2
  go_loopw [10] (fun vi wr => ∃ pA : Nat, vi = .int .i64 pA ∧ (a + 1) ≤ pA ∧ pA ≤ (b - 1) + 1 ∧ Hid (SW enc w0 blk off dk wr) ∧ Hid (Kept blk (W.alloc (datB lb sf sb)) wr) ∧
      Hid (scanUp (fun x => lt x dk[a]!) dk (b - 1) pA = scanUp (fun x => lt x dk[a]!) dk (b - 1) (a + 1))) (fun vi _ => (b - 1) + 1 - (intOf vi).toNat)
  case atStart => exact ⟨(a + 1), by first | rfl | go_num | (congr 1; omega), Nat.le_refl _, by omega, HS1, HKa, rfl⟩
  case round =>
    obtain ⟨pA, rfl, hi2A, hi2jA, HSaA, HKaA, HUA⟩ := hrel
    obtain ⟨c0, c1⟩ := box_at lb sf sb HKaA.out hlt
    by_cases hleA : pA ≤ (b - 1)
    · cases hlA : lt dk[pA]! dk[a]! with
      | true =>
        go_wp2_with (go_at_fn 49; refine (HC.out.lessI HSaA.out hsk (pA) (a) (by omega) (by omega) (by omega) (by omega) hlA).mono ?_; rintro e w2A ⟨rfl, hS, hK⟩; have HSaA : Hid (SW enc w0 blk off dk w2A) := hS; have HKaA : Hid (Kept blk (W.alloc (datB lb sf sb)) w2A) := HKaA.out.trans hK.out; clear hS hK; obtain ⟨b0w2A, b1w2A⟩ := box_at lb sf sb HKaA.out hlt)
        go_roundw
        case rel => exact ⟨pA + 1, by go_num, by omega, by omega, HSaA, HKaA, by show _ = _; rw [← HUA.out, scanUp_go _ _ _ _ hleA (by simp [hlA])]⟩
        case measure => simp [intOf]; omega
      | false =>
        have HIA : Hid (pA = scanUp (fun x => lt x dk[a]!) dk (b - 1) (a + 1)) := by
          show pA = _
          rw [← HUA.out, scanUp_end _ _ _ _ (.inr (by simp [hlA]))]
        clear HUA
        go_wp2_with (go_at_fn 49; refine (HC.out.lessI HSaA.out hsk (pA) (a) (by omega) (by omega) (by omega) (by omega) hlA).mono ?_; rintro e w2A ⟨rfl, hS, hK⟩; have HSaA : Hid (SW enc w0 blk off dk w2A) := hS; have HKaA : Hid (Kept blk (W.alloc (datB lb sf sb)) w2A) := HKaA.out.trans hK.out; clear hS hK; obtain ⟨b0w2A, b1w2A⟩ := box_at lb sf sb HKaA.out hlt)
        go_loopw [11] (fun vj wr => ∃ qA : Nat, vj = .int .i64 qA ∧ qA ≤ (b - 1) ∧ pA ≤ qA + 1 ∧ Hid (SW enc w0 blk off dk wr) ∧ Hid (Kept blk (W.alloc (datB lb sf sb)) wr) ∧
            Hid (scanDown (fun x => !lt x dk[a]!) dk pA qA = scanDown (fun x => !lt x dk[a]!) dk pA (b - 1))) (fun vj _ => (intOf vj).toNat)
        case atStart => exact ⟨(b - 1), by first | rfl | go_num | (congr 1; omega), Nat.le_refl _, by omega, HSaA, HKaA, rfl⟩
        case round =>
          obtain ⟨qA, rfl, hj2A, hij2A, HScA, HKcA, HDA⟩ := hrel
          clear HSaA HKaA
          obtain ⟨c0, c1⟩ := box_at lb sf sb HKcA.out hlt
          by_cases hle2A : pA ≤ qA
          · cases hl2A : lt dk[qA]! dk[a]! with
            | false =>
              go_wp2_with (go_at_fn 49; refine (HC.out.lessI HScA.out hsk (qA) (a) (by omega) (by omega) (by omega) (by omega) hl2A).mono ?_; rintro e w3A ⟨rfl, hS, hK⟩; have HScA : Hid (SW enc w0 blk off dk w3A) := hS; have HKcA : Hid (Kept blk (W.alloc (datB lb sf sb)) w3A) := HKcA.out.trans hK.out; clear hS hK; obtain ⟨b0w3A, b1w3A⟩ := box_at lb sf sb HKcA.out hlt)
              go_roundw
              case rel => exact ⟨qA - 1, by congr 1; omega, by omega, by omega, HScA, HKcA, by show _ = _; rw [← HDA.out, scanDown_go _ _ _ _ hle2A (by omega) (by simp [hl2A])]⟩
              case measure => simp [intOf]; omega
            | true =>
              have HJA : Hid (qA = scanDown (fun x => !lt x dk[a]!) dk pA (b - 1)) := by
                show qA = _
                rw [← HDA.out, scanDown_end _ _ _ _ (.inr (by simp [hl2A]))]
              clear HDA
              have hneA : pA ≠ qA := by
                intro h
                rw [← h, hlA] at hl2A
                cases hl2A
              go_wp2_with (go_at_fn 49; refine (HC.out.lessI HScA.out hsk (qA) (a) (by omega) (by omega) (by omega) (by omega) hl2A).mono ?_; rintro e w3A ⟨rfl, hS, hK⟩; have HScA : Hid (SW enc w0 blk off dk w3A) := hS; have HKcA : Hid (Kept blk (W.alloc (datB lb sf sb)) w3A) := HKcA.out.trans hK.out; clear hS hK; obtain ⟨b0w3A, b1w3A⟩ := box_at lb sf sb HKcA.out hlt)
              refine HC.out.uponSwap HScA.out hsk pA qA (by omega) (by omega) (by omega) (by omega) ?_
              intro w4A HS4A HK4A
              have HK5A : Hid (Kept blk (W.alloc (datB lb sf sb)) w4A) := HKcA.out.trans HK4A.out
              clear HK4A
              have HO1 : Hid (partition lt d a b pivot = ((partLoop lt a (pA + 1) (qA - 1) (swp dk pA qA)).1, false, swp (partLoop lt a (pA + 1) (qA - 1) (swp dk pA qA)).2 (partLoop lt a (pA + 1) (qA - 1) (swp dk pA qA)).1 a)) := pt_go HDK.out HIA.out HJA.out (by omega)
              rw [HO1.out] at HM
              clear HO1
              go_wp2
              go_loopw [10, 11] (fun vi vj wr => ∃ (i j : Nat) (dj : Array α), vi = .int .i64 i ∧ vj = .int .i64 j ∧ a < i ∧ i ≤ j + 1 ∧ j < b ∧ dj.size = size ∧ Hid (SW enc w0 blk off dj wr) ∧ Hid (Kept blk (W.alloc (datB lb sf sb)) wr) ∧
                  Hid (partLoop lt a i j dj = partLoop lt a (pA + 1) (qA - 1) (swp dk pA qA))) (fun vi vj _ => (intOf vj + 1 - intOf vi).toNat)
              case atStart => exact ⟨pA + 1, qA - 1, _, by go_num, by congr 1; omega, by omega, by omega, by omega, by rw [size_swp]; exact hsk, HS4A, HK5A, rfl⟩
              case round =>
                obtain ⟨i, j, dj, rfl, rfl, hai, hij, hjb, hsj, HS, HK, HO⟩ := hrel
                clear HS4A HK5A
                go_wp2
                go_loopw [10] (fun vi wr => ∃ pB : Nat, vi = .int .i64 pB ∧ i ≤ pB ∧ pB ≤ j + 1 ∧ Hid (SW enc w0 blk off dj wr) ∧ Hid (Kept blk (W.alloc (datB lb sf sb)) wr) ∧
                    Hid (scanUp (fun x => lt x dj[a]!) dj j pB = scanUp (fun x => lt x dj[a]!) dj j i)) (fun vi _ => j + 1 - (intOf vi).toNat)
                case atStart => exact ⟨i, by first | rfl | go_num | (congr 1; omega), Nat.le_refl _, by omega, HS, HK, rfl⟩
                case round =>
                  obtain ⟨pB, rfl, hi2B, hi2jB, HSaB, HKaB, HUB⟩ := hrel
                  obtain ⟨c0, c1⟩ := box_at lb sf sb HKaB.out hlt
                  by_cases hleB : pB ≤ j
                  · cases hlB : lt dj[pB]! dj[a]! with
                    | true =>
                      go_wp2_with (go_at_fn 49; refine (HC.out.lessI HSaB.out hsj (pB) (a) (by omega) (by omega) (by omega) (by omega) hlB).mono ?_; rintro e w2B ⟨rfl, hS, hK⟩; have HSaB : Hid (SW enc w0 blk off dj w2B) := hS; have HKaB : Hid (Kept blk (W.alloc (datB lb sf sb)) w2B) := HKaB.out.trans hK.out; clear hS hK; obtain ⟨b0w2B, b1w2B⟩ := box_at lb sf sb HKaB.out hlt)
                      go_roundw
                      case rel => exact ⟨pB + 1, by go_num, by omega, by omega, HSaB, HKaB, by show _ = _; rw [← HUB.out, scanUp_go _ _ _ _ hleB (by simp [hlB])]⟩
                      case measure => simp [intOf]; omega
                    | false =>
                      have HIB : Hid (pB = scanUp (fun x => lt x dj[a]!) dj j i) := by
                        show pB = _
                        rw [← HUB.out, scanUp_end _ _ _ _ (.inr (by simp [hlB]))]
                      clear HUB
                      go_wp2_with (go_at_fn 49; refine (HC.out.lessI HSaB.out hsj (pB) (a) (by omega) (by omega) (by omega) (by omega) hlB).mono ?_; rintro e w2B ⟨rfl, hS, hK⟩; have HSaB : Hid (SW enc w0 blk off dj w2B) := hS; have HKaB : Hid (Kept blk (W.alloc (datB lb sf sb)) w2B) := HKaB.out.trans hK.out; clear hS hK; obtain ⟨b0w2B, b1w2B⟩ := box_at lb sf sb HKaB.out hlt)
                      go_loopw [11] (fun vj wr => ∃ qB : Nat, vj = .int .i64 qB ∧ qB ≤ j ∧ pB ≤ qB + 1 ∧ Hid (SW enc w0 blk off dj wr) ∧ Hid (Kept blk (W.alloc (datB lb sf sb)) wr) ∧
                          Hid (scanDown (fun x => !lt x dj[a]!) dj pB qB = scanDown (fun x => !lt x dj[a]!) dj pB j)) (fun vj _ => (intOf vj).toNat)
                      case atStart => exact ⟨j, by first | rfl | go_num | (congr 1; omega), Nat.le_refl _, by omega, HSaB, HKaB, rfl⟩
                      case round =>
                        obtain ⟨qB, rfl, hj2B, hij2B, HScB, HKcB, HDB⟩ := hrel
                        clear HSaB HKaB
                        obtain ⟨c0, c1⟩ := box_at lb sf sb HKcB.out hlt
                        by_cases hle2B : pB ≤ qB
                        · cases hl2B : lt dj[qB]! dj[a]! with
                          | false =>
                            go_wp2_with (go_at_fn 49; refine (HC.out.lessI HScB.out hsj (qB) (a) (by omega) (by omega) (by omega) (by omega) hl2B).mono ?_; rintro e w3B ⟨rfl, hS, hK⟩; have HScB : Hid (SW enc w0 blk off dj w3B) := hS; have HKcB : Hid (Kept blk (W.alloc (datB lb sf sb)) w3B) := HKcB.out.trans hK.out; clear hS hK; obtain ⟨b0w3B, b1w3B⟩ := box_at lb sf sb HKcB.out hlt)
                            go_roundw
                            case rel => exact ⟨qB - 1, by congr 1; omega, by omega, by omega, HScB, HKcB, by show _ = _; rw [← HDB.out, scanDown_go _ _ _ _ hle2B (by omega) (by simp [hl2B])]⟩
                            case measure => simp [intOf]; omega
                          | true =>
                            have HJB : Hid (qB = scanDown (fun x => !lt x dj[a]!) dj pB j) := by
                              show qB = _
                              rw [← HDB.out, scanDown_end _ _ _ _ (.inr (by simp [hl2B]))]
                            clear HDB
                            have hneB : pB ≠ qB := by
                              intro h
                              rw [← h, hlB] at hl2B
                              cases hl2B
                            go_wp2_with (go_at_fn 49; refine (HC.out.lessI HScB.out hsj (qB) (a) (by omega) (by omega) (by omega) (by omega) hl2B).mono ?_; rintro e w3B ⟨rfl, hS, hK⟩; have HScB : Hid (SW enc w0 blk off dj w3B) := hS; have HKcB : Hid (Kept blk (W.alloc (datB lb sf sb)) w3B) := HKcB.out.trans hK.out; clear hS hK; obtain ⟨b0w3B, b1w3B⟩ := box_at lb sf sb HKcB.out hlt)
                            refine HC.out.uponSwap HScB.out hsj pB qB (by omega) (by omega) (by omega) (by omega) ?_
                            intro w4B HS4B HK4B
                            have HK5B : Hid (Kept blk (W.alloc (datB lb sf sb)) w4B) := HKcB.out.trans HK4B.out
                            clear HK4B
                            go_wp2
                            go_roundw
                            case rel => exact ⟨pB + 1, qB - 1, _, by go_num, by congr 1; omega, by omega, by omega, by omega, by rw [size_swp]; exact hsj, HS4B, HK5B, by show _ = _; rw [← pl_go HIB.out HJB.out (by omega)]; exact HO.out⟩
                            case measure => simp [intOf]; omega
                        · have HJB : Hid (qB = scanDown (fun x => !lt x dj[a]!) dj pB j) := by
                            show qB = _
                            rw [← HDB.out, scanDown_end _ _ _ _ (.inl hle2B)]
                          clear HDB
                          go_wp2
                          refine HC.out.uponSwap HScB.out hsj (qB) a (by omega) (by omega) (by omega) (by omega) ?_
                          intro w6 HS6 HK6
                          go_wp2
                          go_ret2
                          have e := HO.out
                          rw [pl_break HIB.out HJB.out (by omega)] at e
                          have e' := HM.out
                          rw [← e] at e'
                          simp only [Prod.mk.injEq] at e'
                          obtain ⟨h1, h2, h3⟩ := e'
                          subst h1; subst h2; subst h3
                          exact ⟨by first | rfl | (congr 4; omega), HS6, (HKcB.out.trans HK6.out).ofAlloc⟩
                  · have HIB : Hid (pB = scanUp (fun x => lt x dj[a]!) dj j i) := by
                      show pB = _
                      rw [← HUB.out, scanUp_end _ _ _ _ (.inl hleB)]
                    have HJB : Hid (j = scanDown (fun x => !lt x dj[a]!) dj pB j) := by
                      show j = _
                      rw [scanDown_end _ _ _ _ (.inl hleB)]
                    clear HUB
                    go_wp2
                    go_loopw [11] (fun vj wr => vj = .int .i64 (j : Nat) ∧ Hid (SW enc w0 blk off dj wr) ∧ Hid (Kept blk (W.alloc (datB lb sf sb)) wr)) (fun vj _ => 0)
                    case atStart => exact ⟨by first | rfl | go_num | (congr 1; omega), HSaB, HKaB⟩
                    case round =>
                      obtain ⟨rfl, HScB, HKcB⟩ := hrel
                      clear HSaB HKaB
                      obtain ⟨c0, c1⟩ := box_at lb sf sb HKcB.out hlt
                      go_wp2
                      refine HC.out.uponSwap HScB.out hsj (j) a (by omega) (by omega) (by omega) (by omega) ?_
                      intro w6 HS6 HK6
                      go_wp2
                      go_ret2
                      have e := HO.out
                      rw [pl_break HIB.out HJB.out (by omega)] at e
                      have e' := HM.out
                      rw [← e] at e'
                      simp only [Prod.mk.injEq] at e'
                      obtain ⟨h1, h2, h3⟩ := e'
                      subst h1; subst h2; subst h3
                      exact ⟨by first | rfl | (congr 4; omega), HS6, (HKcB.out.trans HK6.out).ofAlloc⟩

          · have HJA : Hid (qA = scanDown (fun x => !lt x dk[a]!) dk pA (b - 1)) := by
              show qA = _
              rw [← HDA.out, scanDown_end _ _ _ _ (.inl hle2A)]
            clear HDA
            go_wp2
            refine HC.out.uponSwap HScA.out hsk (qA) a (by omega) (by omega) (by omega) (by omega) ?_
            intro w6 HS6 HK6
            go_wp2
            go_ret2
            have e := HM.out
            rw [pt_break HDK.out HIA.out HJA.out (by omega)] at e
            simp only [Prod.mk.injEq] at e
            obtain ⟨h1, h2, h3⟩ := e
            subst h1; subst h2; subst h3
            exact ⟨by first | rfl | (congr 4; omega), HS6, (HKcA.out.trans HK6.out).ofAlloc⟩
    · have HIA : Hid (pA = scanUp (fun x => lt x dk[a]!) dk (b - 1) (a + 1)) := by
        show pA = _
        rw [← HUA.out, scanUp_end _ _ _ _ (.inl hleA)]
      have HJA : Hid ((b - 1) = scanDown (fun x => !lt x dk[a]!) dk pA (b - 1)) := by
        show (b - 1) = _
        rw [scanDown_end _ _ _ _ (.inl hleA)]
      clear HUA
      go_wp2
      go_loopw [11] (fun vj wr => vj = .int .i64 ((b - 1) : Nat) ∧ Hid (SW enc w0 blk off dk wr) ∧ Hid (Kept blk (W.alloc (datB lb sf sb)) wr)) (fun vj _ => 0)
      case atStart => exact ⟨by first | rfl | go_num | (congr 1; omega), HSaA, HKaA⟩
      case round =>
        obtain ⟨rfl, HScA, HKcA⟩ := hrel
        clear HSaA HKaA
        obtain ⟨c0, c1⟩ := box_at lb sf sb HKcA.out hlt
        go_wp2
        refine HC.out.uponSwap HScA.out hsk ((b - 1)) a (by omega) (by omega) (by omega) (by omega) ?_
        intro w6 HS6 HK6
        go_wp2
        go_ret2
        have e := HM.out
        rw [pt_break HDK.out HIA.out HJA.out (by omega)] at e
        simp only [Prod.mk.injEq] at e
        obtain ⟨h1, h2, h3⟩ := e
        subst h1; subst h2; subst h3
        exact ⟨by first | rfl | (congr 4; omega), HS6, (HKcA.out.trans HK6.out).ofAlloc⟩

end Go.Proofs.Qxb6609068a.Srt
