/-
  sort.siftDown_func, sort.heapSort_func, with a 'less' that lays blocks.
-/
import Derived.Test.Qxb6609068aSrt
import Derived.Deep.LoopGhost
namespace Go.Proofs.Qxb6609068a.Srt
open Go.Shelf Go.RowKit Go.Lib Go.Sort
set_option linter.unusedVariables false
set_option linter.unusedSimpArgs false
variable {α : Type} [Inhabited α] {enc : α → Value} {lt : α → α → Bool} {lb : Array Value} {sf : Nat} {sb : Array Value} {blk off size : Nat} {w0 : World}

/-- 'less', at whatever numbers the walk has come to -/
theorem Ctx.lessI (C : Ctx enc lt lb sf sb blk off size w0) {W : World} {dk : Array α} (hW : SW enc w0 blk off dk W) (hd : dk.size = size) (i j : Nat) {x y : Int} (hx : x = (i : Int)) (hy : y = (j : Int)) (hi : i < size) (hj : j < size) {b : Bool} (hb : lt dk[i]! dk[j]! = b) :
    Calls Try.prog 49 (#[.int .i64 x, .int .i64 y] ++ lb) W fun e w' => e = .returned (.bool b) ∧ Hid (SW enc w0 blk off dk w') ∧ Hid (Kept blk W w') := by
  subst hx; subst hy; subst hb
  exact C.less W dk hW hd i j hi hj

/-- 'swap', where the walk has come to its call -/
theorem Ctx.uponSwap (C : Ctx enc lt lb sf sb blk off size w0) {W : World} {dk : Array α} (hW : SW enc w0 blk off dk W) (hd : dk.size = size) (i j : Nat) {x y : Int} (hx : x = (i : Int)) (hy : y = (j : Int)) (hi : i < size) (hj : j < size)
    {o : Oper} {a : Act} {K : Act → World → Prop} {Q : Exit → Act → World → Prop} (h : ∀ W', Hid (SW enc w0 blk off (swp dk i j) W') → Hid (Kept blk W W') → K (a.put o.dst (.tuple #[])) W') :
    Oper.upon Try.prog o a K Q ((callFunc sf (#[.int .i64 x, .int .i64 y] ++ sb)).run Try.prog W) := by
  subst hx; subst hy
  obtain ⟨W', hr, h1, h2⟩ := C.swapped hW hd i j hi hj
  rw [hr, Oper.upon_value]
  exact h W' h1 h2

theorem sd_end (hi first root : Nat) (d : Array α) (h : 2 * root + 1 ≥ hi) : siftDown lt hi first root d = d := by rw [siftDown, dif_pos h]
theorem sd_r {hi first root : Nat} {d : Array α} (h : ¬ 2 * root + 1 ≥ hi) (h2 : 2 * root + 1 + 1 < hi) (hl : lt d[first + (2 * root + 1)]! d[first + (2 * root + 1) + 1]! = true) :
    siftDown lt hi first root d = if lt d[first + root]! d[first + (2 * root + 2)]! then siftDown lt hi first (2 * root + 2) (swp d (first + root) (first + (2 * root + 2))) else d := by
  rw [siftDown, dif_neg h]
  cases hv : lt d[first + root]! d[first + (2 * root + 2)]! <;> simp [h2, hl, hv]
theorem sd_l {hi first root : Nat} {d : Array α} (h : ¬ 2 * root + 1 ≥ hi) (hl : ¬ 2 * root + 1 + 1 < hi ∨ lt d[first + (2 * root + 1)]! d[first + (2 * root + 1) + 1]! = false) :
    siftDown lt hi first root d = if lt d[first + root]! d[first + (2 * root + 1)]! then siftDown lt hi first (2 * root + 1) (swp d (first + root) (first + (2 * root + 1))) else d := by
  rw [siftDown, dif_neg h]
  rcases hl with hl | hl
  · cases hv : lt d[first + root]! d[first + (2 * root + 1)]! <;> simp [hl, hv]
  · cases hv : lt d[first + root]! d[first + (2 * root + 1)]! <;> simp [hl, hv]

set_option maxHeartbeats 4000000 in
set_option maxRecDepth 100000 in
theorem siftDown_is (C : Ctx enc lt lb sf sb blk off size w0) (lo hi first : Nat) (d : Array α) (hd : d.size = size) (W : World) (hW : SW enc w0 blk off d W) (hlo : lo ≤ hi) (hf : first + hi ≤ size) :
    Calls Try.prog 76 #[dat lb sf sb, .int .i64 lo, .int .i64 hi, .int .i64 first] W fun e w' => e = .returned (.tuple #[]) ∧ Hid (SW enc w0 blk off (siftDown lt hi first lo d) w') ∧ Hid (Kept blk W w') := by
  have hsz := C.hsz
  have hlt := C.le hW
  have HC : Hid (Ctx enc lt lb sf sb blk off size w0) := C
  have HW : Hid (SW enc w0 blk off d W) := hW
  clear C hW
  have eg := eg49
  go_enter Try.func76, Try.ntmps76
  go_wp2
  go_loopw [8] (fun vi wr => ∃ (r : Nat) (dk : Array α), vi = .int .i64 r ∧ r ≤ hi ∧ dk.size = size ∧ Hid (SW enc w0 blk off dk wr) ∧ Hid (Kept blk (W.alloc (datB lb sf sb)) wr) ∧
      Hid (siftDown lt hi first r dk = siftDown lt hi first lo d)) (fun vi _ => hi - (intOf vi).toNat)
  case atStart => exact ⟨lo, d, rfl, hlo, hd, HW.out.alloc _, Kept.refl _ _, rfl⟩
  case round =>
    obtain ⟨r, dk, rfl, hr, hsk, HS, HK, HO⟩ := hrel
    obtain ⟨c0, c1⟩ := box_at lb sf sb HK.out hlt
    by_cases hend : 2 * r + 1 ≥ hi
    · go_wp2
      go_end0
      refine ⟨rfl, ?_, HK.out.ofAlloc⟩
      rw [← HO.out, sd_end _ _ _ _ hend]
      exact HS
    by_cases hch : 2 * r + 1 + 1 < hi
    · cases hl1 : lt dk[first + (2 * r + 1)]! dk[first + (2 * r + 1) + 1]! with
      | true =>
        cases hl2 : lt dk[first + r]! dk[first + (2 * r + 2)]! with
        | true =>
          have t1 : True := trivial
          go_wp2_with (first
            | (go_at_fn 49; have _t := t1; refine (HC.out.lessI HS.out hsk (first + (2 * r + 1)) (first + (2 * r + 1) + 1) (by omega) (by omega) (by omega) (by omega) hl1).mono ?_; rintro e w1 ⟨rfl, HSw1, HKw1⟩; clear t1; obtain ⟨b0w1, b1w1⟩ := box_at lb sf sb (HK.out.trans HKw1.out) hlt)
            | (go_at_fn 49; refine (HC.out.lessI HSw1.out hsk (first + r) (first + (2 * r + 2)) (by omega) (by omega) (by omega) (by omega) hl2).mono ?_; rintro e w2 ⟨rfl, HSw2, HKw2⟩; obtain ⟨b0w2, b1w2⟩ := box_at lb sf sb ((HK.out.trans HKw1.out).trans HKw2.out) hlt))
          refine HC.out.uponSwap HSw2.out hsk (first + r) (first + (2 * r + 2)) (by omega) (by omega) (by omega) (by omega) ?_
          intro w3 HSw3 HKw3
          go_wp2
          go_roundw
          case rel => exact ⟨2 * r + 2, _, by congr 1 <;> omega, by omega, by rw [size_swp]; exact hsk, HSw3, ((HK.out.trans HKw1.out).trans HKw2.out).trans HKw3.out, by show _ = _; rw [← HO.out, sd_r hend hch hl1, if_pos hl2]⟩
          case measure => simp [intOf]; omega
        | false =>
          have t1 : True := trivial
          go_wp2_with (first
            | (go_at_fn 49; have _t := t1; refine (HC.out.lessI HS.out hsk (first + (2 * r + 1)) (first + (2 * r + 1) + 1) (by omega) (by omega) (by omega) (by omega) hl1).mono ?_; rintro e w1 ⟨rfl, HSw1, HKw1⟩; clear t1; obtain ⟨b0w1, b1w1⟩ := box_at lb sf sb (HK.out.trans HKw1.out) hlt)
            | (go_at_fn 49; refine (HC.out.lessI HSw1.out hsk (first + r) (first + (2 * r + 2)) (by omega) (by omega) (by omega) (by omega) hl2).mono ?_; rintro e w2 ⟨rfl, HSw2, HKw2⟩; obtain ⟨b0w2, b1w2⟩ := box_at lb sf sb ((HK.out.trans HKw1.out).trans HKw2.out) hlt))
          refine bodyPost_ret (results_none rfl _ _ _) rfl ⟨rfl, ?_, ((HK.out.trans HKw1.out).trans HKw2.out).ofAlloc⟩
          rw [← HO.out, sd_r hend hch hl1, if_neg (by simp [hl2])]
          exact HSw2
      | false =>
        cases hl2 : lt dk[first + r]! dk[first + (2 * r + 1)]! with
        | true =>
          have t1 : True := trivial
          go_wp2_with (first
            | (go_at_fn 49; have _t := t1; refine (HC.out.lessI HS.out hsk (first + (2 * r + 1)) (first + (2 * r + 1) + 1) (by omega) (by omega) (by omega) (by omega) hl1).mono ?_; rintro e w1 ⟨rfl, HSw1, HKw1⟩; clear t1; obtain ⟨b0w1, b1w1⟩ := box_at lb sf sb (HK.out.trans HKw1.out) hlt)
            | (go_at_fn 49; refine (HC.out.lessI HSw1.out hsk (first + r) (first + (2 * r + 1)) (by omega) (by omega) (by omega) (by omega) hl2).mono ?_; rintro e w2 ⟨rfl, HSw2, HKw2⟩; obtain ⟨b0w2, b1w2⟩ := box_at lb sf sb ((HK.out.trans HKw1.out).trans HKw2.out) hlt))
          refine HC.out.uponSwap HSw2.out hsk (first + r) (first + (2 * r + 1)) (by omega) (by omega) (by omega) (by omega) ?_
          intro w3 HSw3 HKw3
          go_wp2
          go_roundw
          case rel => exact ⟨2 * r + 1, _, by congr 1 <;> omega, by omega, by rw [size_swp]; exact hsk, HSw3, ((HK.out.trans HKw1.out).trans HKw2.out).trans HKw3.out, by show _ = _; rw [← HO.out, sd_l hend (Or.inr hl1), if_pos hl2]⟩
          case measure => simp [intOf]; omega
        | false =>
          have t1 : True := trivial
          go_wp2_with (first
            | (go_at_fn 49; have _t := t1; refine (HC.out.lessI HS.out hsk (first + (2 * r + 1)) (first + (2 * r + 1) + 1) (by omega) (by omega) (by omega) (by omega) hl1).mono ?_; rintro e w1 ⟨rfl, HSw1, HKw1⟩; clear t1; obtain ⟨b0w1, b1w1⟩ := box_at lb sf sb (HK.out.trans HKw1.out) hlt)
            | (go_at_fn 49; refine (HC.out.lessI HSw1.out hsk (first + r) (first + (2 * r + 1)) (by omega) (by omega) (by omega) (by omega) hl2).mono ?_; rintro e w2 ⟨rfl, HSw2, HKw2⟩; obtain ⟨b0w2, b1w2⟩ := box_at lb sf sb ((HK.out.trans HKw1.out).trans HKw2.out) hlt))
          refine bodyPost_ret (results_none rfl _ _ _) rfl ⟨rfl, ?_, ((HK.out.trans HKw1.out).trans HKw2.out).ofAlloc⟩
          rw [← HO.out, sd_l hend (Or.inr hl1), if_neg (by simp [hl2])]
          exact HSw2
    · cases hl2 : lt dk[first + r]! dk[first + (2 * r + 1)]! with
      | true =>
        go_wp2_with (go_at_fn 49; refine (HC.out.lessI HS.out hsk (first + r) (first + (2 * r + 1)) (by omega) (by omega) (by omega) (by omega) hl2).mono ?_; rintro e w2 ⟨rfl, HSw2, HKw2⟩; obtain ⟨b0w2, b1w2⟩ := box_at lb sf sb (HK.out.trans HKw2.out) hlt)
        refine HC.out.uponSwap HSw2.out hsk (first + r) (first + (2 * r + 1)) (by omega) (by omega) (by omega) (by omega) ?_
        intro w3 HSw3 HKw3
        go_wp2
        go_roundw
        case rel => exact ⟨2 * r + 1, _, by congr 1 <;> omega, by omega, by rw [size_swp]; exact hsk, HSw3, (HK.out.trans HKw2.out).trans HKw3.out, by show _ = _; rw [← HO.out, sd_l hend (Or.inl hch), if_pos hl2]⟩
        case measure => simp [intOf]; omega
      | false =>
        go_wp2_with (go_at_fn 49; refine (HC.out.lessI HS.out hsk (first + r) (first + (2 * r + 1)) (by omega) (by omega) (by omega) (by omega) hl2).mono ?_; rintro e w2 ⟨rfl, HSw2, HKw2⟩; obtain ⟨b0w2, b1w2⟩ := box_at lb sf sb (HK.out.trans HKw2.out) hlt)
        refine bodyPost_ret (results_none rfl _ _ _) rfl ⟨rfl, ?_, (HK.out.trans HKw2.out).ofAlloc⟩
        rw [← HO.out, sd_l hend (Or.inl hch), if_neg (by simp [hl2])]
        exact HSw2

theorem size_sd (hi F : Nat) : ∀ (n root : Nat) (d : Array α), hi - root ≤ n → (siftDown lt hi F root d).size = d.size := by
  intro n
  induction n with
  | zero => intro root d h; rw [sd_end _ _ _ _ (by omega)]
  | succ n ih =>
    intro root d h
    by_cases he : 2 * root + 1 ≥ hi
    · rw [sd_end _ _ _ _ he]
    by_cases hc : 2 * root + 1 + 1 < hi ∧ lt d[F + (2 * root + 1)]! d[F + (2 * root + 1) + 1]! = true
    · rw [sd_r he hc.1 hc.2]
      split
      · rw [ih _ _ (by omega), size_swp]
      · rfl
    · rw [sd_l he (by
        by_cases h2 : 2 * root + 1 + 1 < hi
        · right
          cases hl : lt d[F + (2 * root + 1)]! d[F + (2 * root + 1) + 1]!
          · rfl
          · exact absurd ⟨h2, hl⟩ hc
        · left; exact h2)]
      split
      · rw [ih _ _ (by omega), size_swp]
      · rfl

/-- the same, at whatever numbers the walk has come to -/
theorem siftI (C : Ctx enc lt lb sf sb blk off size w0) (lo hi first : Nat) {x y z : Int} (hx : x = (lo : Int)) (hy : y = (hi : Int)) (hz : z = (first : Int)) (d : Array α) (hd : d.size = size) (W : World) (hW : SW enc w0 blk off d W) (hlo : lo ≤ hi) (hf : first + hi ≤ size) :
    Calls Try.prog 76 #[dat lb sf sb, .int .i64 x, .int .i64 y, .int .i64 z] W fun e w' => e = .returned (.tuple #[]) ∧ Hid (SW enc w0 blk off (siftDown lt hi first lo d) w') ∧ Hid (Kept blk W w') := by
  subst hx; subst hy; subst hz
  exact siftDown_is C lo hi first d hd W hW hlo hf

end Go.Proofs.Qxb6609068a.Srt
