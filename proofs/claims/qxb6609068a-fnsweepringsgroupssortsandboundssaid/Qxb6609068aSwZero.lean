/-
  THE WALK of FnSweepRingsGroupsSortsAndBounds, where there is no segment.
-/
import Derived.Test.Qxb6609068aSwOut
namespace Go.Proofs.Qxb6609068a.Small
open Go.ChangeShapes Go.WideShapes Go.ChangeAt Go.RowKit
set_option linter.unusedVariables false
set_option linter.unusedSimpArgs false
attribute [local go_sem ↓] Go.wp_at_zero Go.wp_at_succ
attribute [local go_sem] run_store_float

set_option maxRecDepth 1000000 in
set_option maxHeartbeats 8000000 in
theorem sweep_zero (a : Option Addr) (c : Nat) (w : World) :
    Calls Try.prog 7 #[.slice a 0 c] w fun e w' => e = .returned (.bool true) ∧ Below w.heap.size w w' := by
  obtain ⟨i3, hi3, hz3, hs3, hb3⟩ := info_parts info3
  obtain ⟨i4, hi4, hz4, hs4, hb4⟩ := info_parts info4
  obtain ⟨i2, hi2, hz2, hs2, hb2⟩ := info_parts info2
  go_enter Try.func7, Try.ntmps7
  go_wp2_with (go_at_call 21; refine (zzBytes21_yes _ _ _ _ (by omega)).mono ?_; rintro e w' ⟨rfl, hw⟩; subst w')
  go_loopw [3] (fun i wr => i = .int .i64 0 ∧ wr = w) (fun i _ => 0)
  case atStart => exact ⟨rfl, rfl⟩
  case round =>
    obtain ⟨rfl, rfl⟩ := hrel
    have t1 : True := trivial
    have t2 : True := trivial
    have t3 : True := trivial
    go_wp2_with (first
      | (go_at_call 22; refine (ringCount_zero _ _ _).mono ?_; rintro e w' ⟨rfl, hw⟩; subst w')
      | (at_make; refine wpList_make_full _ rfl _ _ 49 rfl wr.heap.size 3 i3 _ 1 Try.underlying49 hi3 hz3 hs3 _ _ _ _ 0 rfl rfl rfl rfl (by omega) (by unfold maxLen; omega) (Nat.le_refl _) ?_; intro w1 hown hgrow; have q1 : wr.heap.size < w1.heap.size := (hown.lt _ rfl).2; have G1 : Hid (wr.grownBy w1 none) := hgrow; clear hown hgrow)
      | (at_make; refine wpList_make_full _ rfl _ _ 50 rfl wr.heap.size 4 i4 _ 1 Try.underlying50 hi4 hz4 hs4 _ _ _ _ 0 rfl rfl rfl rfl (by omega) (by unfold maxLen; omega) (by omega) ?_; intro w2 hown hgrow; have q2 : w1.heap.size < w2.heap.size := (hown.lt _ rfl).2; have G2 : Hid (w1.grownBy w2 none) := hgrow; clear hown hgrow)
      | (at_make; have _t := t1; refine wpList_make_full _ rfl _ _ 51 rfl wr.heap.size 2 i2 _ 1 Try.underlying51 hi2 hz2 hs2 _ _ _ _ 0 rfl rfl rfl rfl (by omega) (by unfold maxLen; omega) (by omega) ?_; intro w3 hown hgrow; have q3 : w2.heap.size < w3.heap.size := (hown.lt _ rfl).2; have G3 : Hid (w2.grownBy w3 none) := hgrow; clear hown hgrow; clear t1)
      | (at_make; have _t := t2; refine wpList_make_full _ rfl _ _ 51 rfl wr.heap.size 2 i2 _ 1 Try.underlying51 hi2 hz2 hs2 _ _ _ _ 0 rfl rfl rfl rfl (by omega) (by unfold maxLen; omega) (by omega) ?_; intro w4 hown hgrow; have q4 : w3.heap.size < w4.heap.size := (hown.lt _ rfl).2; have G4 : Hid (w3.grownBy w4 none) := hgrow; clear hown hgrow; clear t2)
      | (at_make; have _t := t3; refine wpList_make_full _ rfl _ _ 51 rfl wr.heap.size 2 i2 _ 1 Try.underlying51 hi2 hz2 hs2 _ _ _ _ 0 rfl rfl rfl rfl (by omega) (by unfold maxLen; omega) (by omega) ?_; intro w5 hown hgrow; have q5 : w4.heap.size < w5.heap.size := (hown.lt _ rfl).2; have G5 : Hid (w4.grownBy w5 none) := hgrow; clear hown hgrow; clear t3)
      | (at_make; refine wpList_make_full _ rfl _ _ 51 rfl wr.heap.size 2 i2 _ 1 Try.underlying51 hi2 hz2 hs2 _ _ _ _ 0 rfl rfl rfl rfl (by omega) (by unfold maxLen; omega) (by omega) ?_; intro w6 hown hgrow; have q6 : w5.heap.size < w6.heap.size := (hown.lt _ rfl).2; have G6 : Hid (w5.grownBy w6 none) := hgrow; clear hown hgrow))
    have hnone : ∀ k, (none : Option Nat) = some k → wr.heap.size ≤ k := fun k hk => by cases hk
    have HB0 : Hid (Below wr.heap.size wr w6) := (((((((Below.refl wr.heap.size wr).grown G1.out (Nat.le_refl _) hnone).grown G2.out (by omega) hnone).grown G3.out (by omega) hnone).grown G4.out (by omega) hnone).grown G5.out (by omega) hnone).grown G6.out (by omega) hnone)
    clear G1 G2 G3 G4 G5 G6 hnone
    go_loopw [12] (fun i wx => i = .int .i64 0 ∧ Hid (Below wr.heap.size wr wx)) (fun i _ => 0)
    case atStart => exact ⟨rfl, HB0⟩
    case round =>
      rename World => wf
      obtain ⟨rfl, HB1⟩ := hrel
      clear HB0
      have hzf := HB1.out.size
      go_wp2_with (first
        | (go_at_call 14; refine (buildEdges_zero _ _ _).mono ?_; rintro e w7 ⟨ge, rfl, hge, hb⟩; have HB7 : Hid (Below wf.heap.size wf w7) := hb; clear hb)
        | (go_at_call 23; refine (zzsweep_is ge 0 ⟨fun _ => 0, fun _ => 0, fun _ => 0, fun _ => 0, fun _ => 0, fun _ => 0, fun _ => 0, fun _ => 0⟩ _ (by omega) (fun k hk => absurd hk (Nat.not_lt_zero _)) hge (fun k hk => absurd hk (Nat.not_lt_zero _))).mono ?_; rintro e w8 ⟨v, rb, E, L, rfl, hrb, hR, hL, hB⟩; have hR' := hR.row; obtain ⟨pv, cv, rfl, _⟩ := own_is (n := 0) hR'; have HB8 : Hid (Below w7.heap.size w7 w8) := hB; clear hR hL hB hrb hR')
        | (at_make; refine wpList_make_full _ rfl _ _ 50 rfl w8.heap.size 4 i4 _ 1 Try.underlying50 hi4 hz4 hs4 _ _ _ _ 0 rfl rfl rfl rfl (by omega) (by unfold maxLen; omega) (Nat.le_refl _) ?_; intro w9 hown hgrow; have G9 : Hid (w8.grownBy w9 none) := hgrow; clear hown hgrow))
      have HBw : Hid (Below wr.heap.size wr w8) := (HB1.out.trans (HB7.out.mono hzf)).trans (HB8.out.mono (Nat.le_trans hzf HB7.out.size))
      have HB9 : Hid (Below wr.heap.size wr w9) := HBw.out.trans (((Below.refl w8.heap.size w8).grown G9.out (Nat.le_refl _) (fun k hk => by cases hk)).mono HBw.out.size)
      clear G9 HB7 HB8 HB1 HBw
      go_loopw [21] (fun i wx => i = .int .i64 0 ∧ Hid (Below wr.heap.size wr wx)) (fun i _ => 0)
      case atStart => exact ⟨rfl, HB9⟩
      case round =>
        obtain ⟨rfl, HBe⟩ := hrel
        go_wp2
        go_ret
        exact ⟨rfl, HBe.out⟩

end Go.Proofs.Qxb6609068a.Small
