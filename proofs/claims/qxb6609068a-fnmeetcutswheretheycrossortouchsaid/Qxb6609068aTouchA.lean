/-
  CONTRACT of meetTailRight where the segments do not cross: one theorem for each way the ends may lie (TouchA).
-/
import Derived.Test.Qxb6609068aTail
import Derived.Deep.QuietTactic
import Derived.BigQuiet
namespace Go.Proofs.Qxb6609068a.Small
open Go.ChangeShapes Go.WideShapes Go.ChangeAt Go.RowKit
set_option linter.unusedVariables false
attribute [local go_sem] run_store_float

set_option maxRecDepth 100000 in
set_option maxHeartbeats 8000000 in
theorem touch_0000 (g o c lo hi : Nat) (eax eay ebx eby ek ei fax fay fbx fby fk fi : Int) (e0 e1 f0 f1 : Nat) (w : World) (r0 : -536870912 ≤ eax ∧ eax ≤ 536870912) (r1 : -536870912 ≤ eay ∧ eay ≤ 536870912) (r2 : -536870912 ≤ ebx ∧ ebx ≤ 536870912) (r3 : -536870912 ≤ eby ∧ eby ≤ 536870912) (r4 : -536870912 ≤ fax ∧ fax ≤ 536870912) (r5 : -536870912 ≤ fay ∧ fay ≤ 536870912) (r6 : -536870912 ≤ fbx ∧ fbx ≤ 536870912) (r7 : -536870912 ≤ fby ∧ fby ≤ 536870912)
    (hx : crossV eax eay ebx eby fax fay fbx fby = false) (g1 : openB eax eay fax fay fbx fby = false) (g2 : openB ebx eby fax fay fbx fby = false) (g3 : openB fax fay eax eay ebx eby = false) (g4 : openB fbx fby eax eay ebx eby = false)
    (ht : ∀ k, k < 0 → w.cell? ⟨g, o + k * 3, none⟩ = some (.int .i64 (([] : List (Int × Int × Int)).getD k (0, 0, 0)).1) ∧ w.cell? ⟨g, o + k * 3 + 1, none⟩ = some (.int .i64 (([] : List (Int × Int × Int)).getD k (0, 0, 0)).2.1) ∧ w.cell? ⟨g, o + k * 3 + 2, none⟩ = some (.int .i64 (([] : List (Int × Int × Int)).getD k (0, 0, 0)).2.2)) :
    Calls Try.prog 18 #[.slice (some ⟨g, o, none⟩) 0 c, sgv eax eay ebx eby ek ei e0 e1, sgv fax fay fbx fby fk fi f0 f1, .int .i64 lo, .int .i64 hi] w fun e w' => e = .returned (.bool true) ∧ Below w.heap.size w w' := by
  have HX : Hid (crossV eax eay ebx eby fax fay fbx fby = false) := hx
  have G1 : Hid (openB eax eay fax fay fbx fby = false) := g1
  have G2 : Hid (openB ebx eby fax fay fbx fby = false) := g2
  have G3 : Hid (openB fax fay eax eay ebx eby = false) := g3
  have G4 : Hid (openB fbx fby eax eay ebx eby = false) := g4
  have HT : Hid (∀ k, k < 0 → w.cell? ⟨g, o + k * 3, none⟩ = some (.int .i64 (([] : List (Int × Int × Int)).getD k (0, 0, 0)).1) ∧ w.cell? ⟨g, o + k * 3 + 1, none⟩ = some (.int .i64 (([] : List (Int × Int × Int)).getD k (0, 0, 0)).2.1) ∧ w.cell? ⟨g, o + k * 3 + 2, none⟩ = some (.int .i64 (([] : List (Int × Int × Int)).getD k (0, 0, 0)).2.2)) := ht
  clear hx g1 g2 g3 g4 ht
  have t1 : True := trivial
  have t2 : True ∧ True := ⟨trivial, trivial⟩
  have t3 : True ∧ True ∧ True := ⟨trivial, trivial, trivial⟩
  go_enter Try.func18, Try.ntmps18
  go_wp2_with (first
    | (go_at_call 35; refine (crossing_is eax eay ebx eby ek ei fax fay fbx fby fk fi e0 e1 f0 f1 _ r0 r1 r2 r3 r4 r5 r6 r7).mono ?_; rw [HX.out]; rintro e w1 ⟨rfl, hb1⟩; have hb2 := bthen (b2 _ _ _) hb1; obtain ⟨hz1, hz2, kk, ll⟩ := seg_cells hb1; have k0 := kk 0 _ rfl; have k1 := kk 1 _ rfl; have k2 := kk 2 _ rfl; have k3 := kk 3 _ rfl; have l0 := ll 0 _ rfl; have l1 := ll 1 _ rfl; have l2 := ll 2 _ rfl; have l3 := ll 3 _ rfl; clear kk ll)
    | (go_at_call 9; have _t := t1; refine (onOpen_is eax eay fax fay fbx fby _ G1.out _ r0 r1 r4 r5 r6 r7).mono ?_; rintro e w' ⟨rfl, hw⟩; subst w'; clear t1)
    | (go_at_call 9; have _t := t2; refine (onOpen_is ebx eby fax fay fbx fby _ G2.out _ r2 r3 r4 r5 r6 r7).mono ?_; rintro e w' ⟨rfl, hw⟩; subst w'; clear t2)
    | (go_at_call 9; have _t := t3; refine (onOpen_is fax fay eax eay ebx eby _ G3.out _ r4 r5 r0 r1 r2 r3).mono ?_; rintro e w' ⟨rfl, hw⟩; subst w'; clear t3)
    | (go_at_call 9; refine (onOpen_is fbx fby eax eay ebx eby _ G4.out _ r6 r7 r0 r1 r2 r3).mono ?_; rintro e w' ⟨rfl, hw⟩; subst w'))
  have HB2 : Hid (Below w.heap.size w w1) := hb2
  clear k0 k1 k2 k3 l0 l1 l2 l3 hb1 hb2 r0 r1 r2 r3 r4 r5 r6 r7
  generalize hW : World.alloc w1 _ = W
  have HBW : Hid (Below w.heap.size w W) := by rw [← hW]; exact bthen HB2.out ((Below.refl _ _).alloc (Nat.le_refl _) _)
  have HC : Hid (∀ k, k < 0 → W.cell? ⟨w1.heap.size, k * 3, none⟩ = some (.int .i64 (([] : List (Int × Int × Int)).getD k (0, 0, 0)).1) ∧ W.cell? ⟨w1.heap.size, k * 3 + 1, none⟩ = some (.int .i64 (([] : List (Int × Int × Int)).getD k (0, 0, 0)).2.1) ∧ W.cell? ⟨w1.heap.size, k * 3 + 2, none⟩ = some (.int .i64 (([] : List (Int × Int × Int)).getD k (0, 0, 0)).2.2)) := by
    intro k hk
    rw [← hW]
    omega
  clear hW
  go_loopw [18] (fun k wr => ∃ t : Nat, t ≤ 0 ∧ k = .int .i64 t ∧ Hid (Below W.heap.size W wr)) (fun k _ => 0 - (intOf k).toNat)
  case atStart => exact ⟨0, Nat.zero_le _, rfl, Below.refl _ _⟩
  case round =>
  obtain ⟨t, ht, rfl, HBr⟩ := hrel
  obtain rfl : t = 0 := by omega
  go_wp2_with fail
  go_ret
  exact ⟨rfl, bthen HBW.out HBr.out⟩

set_option maxRecDepth 100000 in
set_option maxHeartbeats 8000000 in
theorem touch_0001 (g o c lo hi : Nat) (eax eay ebx eby ek ei fax fay fbx fby fk fi : Int) (e0 e1 f0 f1 : Nat) (w : World) (r0 : -536870912 ≤ eax ∧ eax ≤ 536870912) (r1 : -536870912 ≤ eay ∧ eay ≤ 536870912) (r2 : -536870912 ≤ ebx ∧ ebx ≤ 536870912) (r3 : -536870912 ≤ eby ∧ eby ≤ 536870912) (r4 : -536870912 ≤ fax ∧ fax ≤ 536870912) (r5 : -536870912 ≤ fay ∧ fay ≤ 536870912) (r6 : -536870912 ≤ fbx ∧ fbx ≤ 536870912) (r7 : -536870912 ≤ fby ∧ fby ≤ 536870912)
    (hx : crossV eax eay ebx eby fax fay fbx fby = false) (g1 : openB eax eay fax fay fbx fby = false) (g2 : openB ebx eby fax fay fbx fby = false) (g3 : openB fax fay eax eay ebx eby = false) (g4 : openB fbx fby eax eay ebx eby = true)
    (ht : ∀ k, k < 1 → w.cell? ⟨g, o + k * 3, none⟩ = some (.int .i64 (([((lo : Int), fbx, fby)] : List (Int × Int × Int)).getD k (0, 0, 0)).1) ∧ w.cell? ⟨g, o + k * 3 + 1, none⟩ = some (.int .i64 (([((lo : Int), fbx, fby)] : List (Int × Int × Int)).getD k (0, 0, 0)).2.1) ∧ w.cell? ⟨g, o + k * 3 + 2, none⟩ = some (.int .i64 (([((lo : Int), fbx, fby)] : List (Int × Int × Int)).getD k (0, 0, 0)).2.2)) :
    Calls Try.prog 18 #[.slice (some ⟨g, o, none⟩) 1 c, sgv eax eay ebx eby ek ei e0 e1, sgv fax fay fbx fby fk fi f0 f1, .int .i64 lo, .int .i64 hi] w fun e w' => e = .returned (.bool true) ∧ Below w.heap.size w w' := by
  have HX : Hid (crossV eax eay ebx eby fax fay fbx fby = false) := hx
  have G1 : Hid (openB eax eay fax fay fbx fby = false) := g1
  have G2 : Hid (openB ebx eby fax fay fbx fby = false) := g2
  have G3 : Hid (openB fax fay eax eay ebx eby = false) := g3
  have G4 : Hid (openB fbx fby eax eay ebx eby = true) := g4
  have HT : Hid (∀ k, k < 1 → w.cell? ⟨g, o + k * 3, none⟩ = some (.int .i64 (([((lo : Int), fbx, fby)] : List (Int × Int × Int)).getD k (0, 0, 0)).1) ∧ w.cell? ⟨g, o + k * 3 + 1, none⟩ = some (.int .i64 (([((lo : Int), fbx, fby)] : List (Int × Int × Int)).getD k (0, 0, 0)).2.1) ∧ w.cell? ⟨g, o + k * 3 + 2, none⟩ = some (.int .i64 (([((lo : Int), fbx, fby)] : List (Int × Int × Int)).getD k (0, 0, 0)).2.2)) := ht
  clear hx g1 g2 g3 g4 ht
  have t1 : True := trivial
  have t2 : True ∧ True := ⟨trivial, trivial⟩
  have t3 : True ∧ True ∧ True := ⟨trivial, trivial, trivial⟩
  go_enter Try.func18, Try.ntmps18
  go_wp2_with (first
    | (go_at_call 35; refine (crossing_is eax eay ebx eby ek ei fax fay fbx fby fk fi e0 e1 f0 f1 _ r0 r1 r2 r3 r4 r5 r6 r7).mono ?_; rw [HX.out]; rintro e w1 ⟨rfl, hb1⟩; have hb2 := bthen (b2 _ _ _) hb1; obtain ⟨hz1, hz2, kk, ll⟩ := seg_cells hb1; have k0 := kk 0 _ rfl; have k1 := kk 1 _ rfl; have k2 := kk 2 _ rfl; have k3 := kk 3 _ rfl; have l0 := ll 0 _ rfl; have l1 := ll 1 _ rfl; have l2 := ll 2 _ rfl; have l3 := ll 3 _ rfl; clear kk ll)
    | (go_at_call 9; have _t := t1; refine (onOpen_is eax eay fax fay fbx fby _ G1.out _ r0 r1 r4 r5 r6 r7).mono ?_; rintro e w' ⟨rfl, hw⟩; subst w'; clear t1)
    | (go_at_call 9; have _t := t2; refine (onOpen_is ebx eby fax fay fbx fby _ G2.out _ r2 r3 r4 r5 r6 r7).mono ?_; rintro e w' ⟨rfl, hw⟩; subst w'; clear t2)
    | (go_at_call 9; have _t := t3; refine (onOpen_is fax fay eax eay ebx eby _ G3.out _ r4 r5 r0 r1 r2 r3).mono ?_; rintro e w' ⟨rfl, hw⟩; subst w'; clear t3)
    | (go_at_call 9; refine (onOpen_is fbx fby eax eay ebx eby _ G4.out _ r6 r7 r0 r1 r2 r3).mono ?_; rintro e w' ⟨rfl, hw⟩; subst w'))
  have HB2 : Hid (Below w.heap.size w w1) := hb2
  clear k0 k1 k2 k3 l0 l1 l2 l3 hb1 hb2 r0 r1 r2 r3 r4 r5 r6 r7
  generalize hW : World.alloc w1 _ = W
  have HBW : Hid (Below w.heap.size w W) := by rw [← hW]; exact bthen HB2.out ((Below.refl _ _).alloc (Nat.le_refl _) _)
  have HC : Hid (∀ k, k < 1 → W.cell? ⟨w1.heap.size, k * 3, none⟩ = some (.int .i64 (([((lo : Int), fbx, fby)] : List (Int × Int × Int)).getD k (0, 0, 0)).1) ∧ W.cell? ⟨w1.heap.size, k * 3 + 1, none⟩ = some (.int .i64 (([((lo : Int), fbx, fby)] : List (Int × Int × Int)).getD k (0, 0, 0)).2.1) ∧ W.cell? ⟨w1.heap.size, k * 3 + 2, none⟩ = some (.int .i64 (([((lo : Int), fbx, fby)] : List (Int × Int × Int)).getD k (0, 0, 0)).2.2)) := by
    intro k hk
    rw [← hW]
    obtain rfl : k = 0 := by omega
    exact ⟨made_new _ _ _ _ _ rfl, made_new _ _ _ _ _ rfl, made_new _ _ _ _ _ rfl⟩
  clear hW
  go_loopw [18] (fun k wr => ∃ t : Nat, t ≤ 1 ∧ k = .int .i64 t ∧ Hid (Below W.heap.size W wr)) (fun k _ => 1 - (intOf k).toNat)
  case atStart => exact ⟨0, Nat.zero_le _, rfl, Below.refl _ _⟩
  case round =>
  obtain ⟨t, ht, rfl, HBr⟩ := hrel
  by_cases htl : t < 1
  · obtain ⟨c0, c1, c2⟩ := HT.out t htl
    have c0' := cell_on (bthen HBW.out HBr.out) c0
    have c1' := cell_on (bthen HBW.out HBr.out) c1
    have c2' := cell_on (bthen HBW.out HBr.out) c2
    obtain ⟨d0, d1, d2⟩ := HC.out t htl
    have d0' := cell_on HBr.out d0
    have d1' := cell_on HBr.out d1
    have d2' := cell_on HBr.out d2
    clear c0 c1 c2 d0 d1 d2 HT HC
    generalize ([((lo : Int), fbx, fby)] : List (Int × Int × Int)).getD t (0, 0, 0) = q at *
    obtain ⟨A, X, Y⟩ := q
    dsimp only at c0' c1' c2' d0' d1' d2'
    have x5 : (t : Int) < 1 := by omega
    have x6 : (t : Int) < 4 := by omega
    go_wp2_with fail
    go_quiet (fail)
    go_wp2
    go_roundw
    case rel => exact ⟨t + 1, by omega, by go_num, below_drewN HBr.out nq⟩
    case measure => simp [intOf]; omega
  obtain rfl : t = 1 := by omega
  go_wp2_with fail
  go_ret
  exact ⟨rfl, bthen HBW.out HBr.out⟩

set_option maxRecDepth 100000 in
set_option maxHeartbeats 8000000 in
theorem touch_0010 (g o c lo hi : Nat) (eax eay ebx eby ek ei fax fay fbx fby fk fi : Int) (e0 e1 f0 f1 : Nat) (w : World) (r0 : -536870912 ≤ eax ∧ eax ≤ 536870912) (r1 : -536870912 ≤ eay ∧ eay ≤ 536870912) (r2 : -536870912 ≤ ebx ∧ ebx ≤ 536870912) (r3 : -536870912 ≤ eby ∧ eby ≤ 536870912) (r4 : -536870912 ≤ fax ∧ fax ≤ 536870912) (r5 : -536870912 ≤ fay ∧ fay ≤ 536870912) (r6 : -536870912 ≤ fbx ∧ fbx ≤ 536870912) (r7 : -536870912 ≤ fby ∧ fby ≤ 536870912)
    (hx : crossV eax eay ebx eby fax fay fbx fby = false) (g1 : openB eax eay fax fay fbx fby = false) (g2 : openB ebx eby fax fay fbx fby = false) (g3 : openB fax fay eax eay ebx eby = true) (g4 : openB fbx fby eax eay ebx eby = false)
    (ht : ∀ k, k < 1 → w.cell? ⟨g, o + k * 3, none⟩ = some (.int .i64 (([((lo : Int), fax, fay)] : List (Int × Int × Int)).getD k (0, 0, 0)).1) ∧ w.cell? ⟨g, o + k * 3 + 1, none⟩ = some (.int .i64 (([((lo : Int), fax, fay)] : List (Int × Int × Int)).getD k (0, 0, 0)).2.1) ∧ w.cell? ⟨g, o + k * 3 + 2, none⟩ = some (.int .i64 (([((lo : Int), fax, fay)] : List (Int × Int × Int)).getD k (0, 0, 0)).2.2)) :
    Calls Try.prog 18 #[.slice (some ⟨g, o, none⟩) 1 c, sgv eax eay ebx eby ek ei e0 e1, sgv fax fay fbx fby fk fi f0 f1, .int .i64 lo, .int .i64 hi] w fun e w' => e = .returned (.bool true) ∧ Below w.heap.size w w' := by
  have HX : Hid (crossV eax eay ebx eby fax fay fbx fby = false) := hx
  have G1 : Hid (openB eax eay fax fay fbx fby = false) := g1
  have G2 : Hid (openB ebx eby fax fay fbx fby = false) := g2
  have G3 : Hid (openB fax fay eax eay ebx eby = true) := g3
  have G4 : Hid (openB fbx fby eax eay ebx eby = false) := g4
  have HT : Hid (∀ k, k < 1 → w.cell? ⟨g, o + k * 3, none⟩ = some (.int .i64 (([((lo : Int), fax, fay)] : List (Int × Int × Int)).getD k (0, 0, 0)).1) ∧ w.cell? ⟨g, o + k * 3 + 1, none⟩ = some (.int .i64 (([((lo : Int), fax, fay)] : List (Int × Int × Int)).getD k (0, 0, 0)).2.1) ∧ w.cell? ⟨g, o + k * 3 + 2, none⟩ = some (.int .i64 (([((lo : Int), fax, fay)] : List (Int × Int × Int)).getD k (0, 0, 0)).2.2)) := ht
  clear hx g1 g2 g3 g4 ht
  have t1 : True := trivial
  have t2 : True ∧ True := ⟨trivial, trivial⟩
  have t3 : True ∧ True ∧ True := ⟨trivial, trivial, trivial⟩
  go_enter Try.func18, Try.ntmps18
  go_wp2_with (first
    | (go_at_call 35; refine (crossing_is eax eay ebx eby ek ei fax fay fbx fby fk fi e0 e1 f0 f1 _ r0 r1 r2 r3 r4 r5 r6 r7).mono ?_; rw [HX.out]; rintro e w1 ⟨rfl, hb1⟩; have hb2 := bthen (b2 _ _ _) hb1; obtain ⟨hz1, hz2, kk, ll⟩ := seg_cells hb1; have k0 := kk 0 _ rfl; have k1 := kk 1 _ rfl; have k2 := kk 2 _ rfl; have k3 := kk 3 _ rfl; have l0 := ll 0 _ rfl; have l1 := ll 1 _ rfl; have l2 := ll 2 _ rfl; have l3 := ll 3 _ rfl; clear kk ll)
    | (go_at_call 9; have _t := t1; refine (onOpen_is eax eay fax fay fbx fby _ G1.out _ r0 r1 r4 r5 r6 r7).mono ?_; rintro e w' ⟨rfl, hw⟩; subst w'; clear t1)
    | (go_at_call 9; have _t := t2; refine (onOpen_is ebx eby fax fay fbx fby _ G2.out _ r2 r3 r4 r5 r6 r7).mono ?_; rintro e w' ⟨rfl, hw⟩; subst w'; clear t2)
    | (go_at_call 9; have _t := t3; refine (onOpen_is fax fay eax eay ebx eby _ G3.out _ r4 r5 r0 r1 r2 r3).mono ?_; rintro e w' ⟨rfl, hw⟩; subst w'; clear t3)
    | (go_at_call 9; refine (onOpen_is fbx fby eax eay ebx eby _ G4.out _ r6 r7 r0 r1 r2 r3).mono ?_; rintro e w' ⟨rfl, hw⟩; subst w'))
  have HB2 : Hid (Below w.heap.size w w1) := hb2
  clear k0 k1 k2 k3 l0 l1 l2 l3 hb1 hb2 r0 r1 r2 r3 r4 r5 r6 r7
  generalize hW : World.alloc w1 _ = W
  have HBW : Hid (Below w.heap.size w W) := by rw [← hW]; exact bthen HB2.out ((Below.refl _ _).alloc (Nat.le_refl _) _)
  have HC : Hid (∀ k, k < 1 → W.cell? ⟨w1.heap.size, k * 3, none⟩ = some (.int .i64 (([((lo : Int), fax, fay)] : List (Int × Int × Int)).getD k (0, 0, 0)).1) ∧ W.cell? ⟨w1.heap.size, k * 3 + 1, none⟩ = some (.int .i64 (([((lo : Int), fax, fay)] : List (Int × Int × Int)).getD k (0, 0, 0)).2.1) ∧ W.cell? ⟨w1.heap.size, k * 3 + 2, none⟩ = some (.int .i64 (([((lo : Int), fax, fay)] : List (Int × Int × Int)).getD k (0, 0, 0)).2.2)) := by
    intro k hk
    rw [← hW]
    obtain rfl : k = 0 := by omega
    exact ⟨made_new _ _ _ _ _ rfl, made_new _ _ _ _ _ rfl, made_new _ _ _ _ _ rfl⟩
  clear hW
  go_loopw [18] (fun k wr => ∃ t : Nat, t ≤ 1 ∧ k = .int .i64 t ∧ Hid (Below W.heap.size W wr)) (fun k _ => 1 - (intOf k).toNat)
  case atStart => exact ⟨0, Nat.zero_le _, rfl, Below.refl _ _⟩
  case round =>
  obtain ⟨t, ht, rfl, HBr⟩ := hrel
  by_cases htl : t < 1
  · obtain ⟨c0, c1, c2⟩ := HT.out t htl
    have c0' := cell_on (bthen HBW.out HBr.out) c0
    have c1' := cell_on (bthen HBW.out HBr.out) c1
    have c2' := cell_on (bthen HBW.out HBr.out) c2
    obtain ⟨d0, d1, d2⟩ := HC.out t htl
    have d0' := cell_on HBr.out d0
    have d1' := cell_on HBr.out d1
    have d2' := cell_on HBr.out d2
    clear c0 c1 c2 d0 d1 d2 HT HC
    generalize ([((lo : Int), fax, fay)] : List (Int × Int × Int)).getD t (0, 0, 0) = q at *
    obtain ⟨A, X, Y⟩ := q
    dsimp only at c0' c1' c2' d0' d1' d2'
    have x5 : (t : Int) < 1 := by omega
    have x6 : (t : Int) < 4 := by omega
    go_wp2_with fail
    go_quiet (fail)
    go_wp2
    go_roundw
    case rel => exact ⟨t + 1, by omega, by go_num, below_drewN HBr.out nq⟩
    case measure => simp [intOf]; omega
  obtain rfl : t = 1 := by omega
  go_wp2_with fail
  go_ret
  exact ⟨rfl, bthen HBW.out HBr.out⟩

set_option maxRecDepth 100000 in
set_option maxHeartbeats 8000000 in
theorem touch_0011 (g o c lo hi : Nat) (eax eay ebx eby ek ei fax fay fbx fby fk fi : Int) (e0 e1 f0 f1 : Nat) (w : World) (r0 : -536870912 ≤ eax ∧ eax ≤ 536870912) (r1 : -536870912 ≤ eay ∧ eay ≤ 536870912) (r2 : -536870912 ≤ ebx ∧ ebx ≤ 536870912) (r3 : -536870912 ≤ eby ∧ eby ≤ 536870912) (r4 : -536870912 ≤ fax ∧ fax ≤ 536870912) (r5 : -536870912 ≤ fay ∧ fay ≤ 536870912) (r6 : -536870912 ≤ fbx ∧ fbx ≤ 536870912) (r7 : -536870912 ≤ fby ∧ fby ≤ 536870912)
    (hx : crossV eax eay ebx eby fax fay fbx fby = false) (g1 : openB eax eay fax fay fbx fby = false) (g2 : openB ebx eby fax fay fbx fby = false) (g3 : openB fax fay eax eay ebx eby = true) (g4 : openB fbx fby eax eay ebx eby = true)
    (ht : ∀ k, k < 2 → w.cell? ⟨g, o + k * 3, none⟩ = some (.int .i64 (([((lo : Int), fax, fay), ((lo : Int), fbx, fby)] : List (Int × Int × Int)).getD k (0, 0, 0)).1) ∧ w.cell? ⟨g, o + k * 3 + 1, none⟩ = some (.int .i64 (([((lo : Int), fax, fay), ((lo : Int), fbx, fby)] : List (Int × Int × Int)).getD k (0, 0, 0)).2.1) ∧ w.cell? ⟨g, o + k * 3 + 2, none⟩ = some (.int .i64 (([((lo : Int), fax, fay), ((lo : Int), fbx, fby)] : List (Int × Int × Int)).getD k (0, 0, 0)).2.2)) :
    Calls Try.prog 18 #[.slice (some ⟨g, o, none⟩) 2 c, sgv eax eay ebx eby ek ei e0 e1, sgv fax fay fbx fby fk fi f0 f1, .int .i64 lo, .int .i64 hi] w fun e w' => e = .returned (.bool true) ∧ Below w.heap.size w w' := by
  have HX : Hid (crossV eax eay ebx eby fax fay fbx fby = false) := hx
  have G1 : Hid (openB eax eay fax fay fbx fby = false) := g1
  have G2 : Hid (openB ebx eby fax fay fbx fby = false) := g2
  have G3 : Hid (openB fax fay eax eay ebx eby = true) := g3
  have G4 : Hid (openB fbx fby eax eay ebx eby = true) := g4
  have HT : Hid (∀ k, k < 2 → w.cell? ⟨g, o + k * 3, none⟩ = some (.int .i64 (([((lo : Int), fax, fay), ((lo : Int), fbx, fby)] : List (Int × Int × Int)).getD k (0, 0, 0)).1) ∧ w.cell? ⟨g, o + k * 3 + 1, none⟩ = some (.int .i64 (([((lo : Int), fax, fay), ((lo : Int), fbx, fby)] : List (Int × Int × Int)).getD k (0, 0, 0)).2.1) ∧ w.cell? ⟨g, o + k * 3 + 2, none⟩ = some (.int .i64 (([((lo : Int), fax, fay), ((lo : Int), fbx, fby)] : List (Int × Int × Int)).getD k (0, 0, 0)).2.2)) := ht
  clear hx g1 g2 g3 g4 ht
  have t1 : True := trivial
  have t2 : True ∧ True := ⟨trivial, trivial⟩
  have t3 : True ∧ True ∧ True := ⟨trivial, trivial, trivial⟩
  go_enter Try.func18, Try.ntmps18
  go_wp2_with (first
    | (go_at_call 35; refine (crossing_is eax eay ebx eby ek ei fax fay fbx fby fk fi e0 e1 f0 f1 _ r0 r1 r2 r3 r4 r5 r6 r7).mono ?_; rw [HX.out]; rintro e w1 ⟨rfl, hb1⟩; have hb2 := bthen (b2 _ _ _) hb1; obtain ⟨hz1, hz2, kk, ll⟩ := seg_cells hb1; have k0 := kk 0 _ rfl; have k1 := kk 1 _ rfl; have k2 := kk 2 _ rfl; have k3 := kk 3 _ rfl; have l0 := ll 0 _ rfl; have l1 := ll 1 _ rfl; have l2 := ll 2 _ rfl; have l3 := ll 3 _ rfl; clear kk ll)
    | (go_at_call 9; have _t := t1; refine (onOpen_is eax eay fax fay fbx fby _ G1.out _ r0 r1 r4 r5 r6 r7).mono ?_; rintro e w' ⟨rfl, hw⟩; subst w'; clear t1)
    | (go_at_call 9; have _t := t2; refine (onOpen_is ebx eby fax fay fbx fby _ G2.out _ r2 r3 r4 r5 r6 r7).mono ?_; rintro e w' ⟨rfl, hw⟩; subst w'; clear t2)
    | (go_at_call 9; have _t := t3; refine (onOpen_is fax fay eax eay ebx eby _ G3.out _ r4 r5 r0 r1 r2 r3).mono ?_; rintro e w' ⟨rfl, hw⟩; subst w'; clear t3)
    | (go_at_call 9; refine (onOpen_is fbx fby eax eay ebx eby _ G4.out _ r6 r7 r0 r1 r2 r3).mono ?_; rintro e w' ⟨rfl, hw⟩; subst w'))
  have HB2 : Hid (Below w.heap.size w w1) := hb2
  clear k0 k1 k2 k3 l0 l1 l2 l3 hb1 hb2 r0 r1 r2 r3 r4 r5 r6 r7
  generalize hW : World.alloc w1 _ = W
  have HBW : Hid (Below w.heap.size w W) := by rw [← hW]; exact bthen HB2.out ((Below.refl _ _).alloc (Nat.le_refl _) _)
  have HC : Hid (∀ k, k < 2 → W.cell? ⟨w1.heap.size, k * 3, none⟩ = some (.int .i64 (([((lo : Int), fax, fay), ((lo : Int), fbx, fby)] : List (Int × Int × Int)).getD k (0, 0, 0)).1) ∧ W.cell? ⟨w1.heap.size, k * 3 + 1, none⟩ = some (.int .i64 (([((lo : Int), fax, fay), ((lo : Int), fbx, fby)] : List (Int × Int × Int)).getD k (0, 0, 0)).2.1) ∧ W.cell? ⟨w1.heap.size, k * 3 + 2, none⟩ = some (.int .i64 (([((lo : Int), fax, fay), ((lo : Int), fbx, fby)] : List (Int × Int × Int)).getD k (0, 0, 0)).2.2)) := by
    intro k hk
    rw [← hW]
    rcases (by omega : k = 0 ∨ k = 1) with rfl | rfl
    all_goals exact ⟨made_new _ _ _ _ _ rfl, made_new _ _ _ _ _ rfl, made_new _ _ _ _ _ rfl⟩
  clear hW
  go_loopw [18] (fun k wr => ∃ t : Nat, t ≤ 2 ∧ k = .int .i64 t ∧ Hid (Below W.heap.size W wr)) (fun k _ => 2 - (intOf k).toNat)
  case atStart => exact ⟨0, Nat.zero_le _, rfl, Below.refl _ _⟩
  case round =>
  obtain ⟨t, ht, rfl, HBr⟩ := hrel
  by_cases htl : t < 2
  · obtain ⟨c0, c1, c2⟩ := HT.out t htl
    have c0' := cell_on (bthen HBW.out HBr.out) c0
    have c1' := cell_on (bthen HBW.out HBr.out) c1
    have c2' := cell_on (bthen HBW.out HBr.out) c2
    obtain ⟨d0, d1, d2⟩ := HC.out t htl
    have d0' := cell_on HBr.out d0
    have d1' := cell_on HBr.out d1
    have d2' := cell_on HBr.out d2
    clear c0 c1 c2 d0 d1 d2 HT HC
    generalize ([((lo : Int), fax, fay), ((lo : Int), fbx, fby)] : List (Int × Int × Int)).getD t (0, 0, 0) = q at *
    obtain ⟨A, X, Y⟩ := q
    dsimp only at c0' c1' c2' d0' d1' d2'
    have x5 : (t : Int) < 2 := by omega
    have x6 : (t : Int) < 4 := by omega
    go_wp2_with fail
    go_quiet (fail)
    go_wp2
    go_roundw
    case rel => exact ⟨t + 1, by omega, by go_num, below_drewN HBr.out nq⟩
    case measure => simp [intOf]; omega
  obtain rfl : t = 2 := by omega
  go_wp2_with fail
  go_ret
  exact ⟨rfl, bthen HBW.out HBr.out⟩

set_option maxRecDepth 100000 in
set_option maxHeartbeats 8000000 in
theorem touch_0100 (g o c lo hi : Nat) (eax eay ebx eby ek ei fax fay fbx fby fk fi : Int) (e0 e1 f0 f1 : Nat) (w : World) (r0 : -536870912 ≤ eax ∧ eax ≤ 536870912) (r1 : -536870912 ≤ eay ∧ eay ≤ 536870912) (r2 : -536870912 ≤ ebx ∧ ebx ≤ 536870912) (r3 : -536870912 ≤ eby ∧ eby ≤ 536870912) (r4 : -536870912 ≤ fax ∧ fax ≤ 536870912) (r5 : -536870912 ≤ fay ∧ fay ≤ 536870912) (r6 : -536870912 ≤ fbx ∧ fbx ≤ 536870912) (r7 : -536870912 ≤ fby ∧ fby ≤ 536870912)
    (hx : crossV eax eay ebx eby fax fay fbx fby = false) (g1 : openB eax eay fax fay fbx fby = false) (g2 : openB ebx eby fax fay fbx fby = true) (g3 : openB fax fay eax eay ebx eby = false) (g4 : openB fbx fby eax eay ebx eby = false)
    (ht : ∀ k, k < 1 → w.cell? ⟨g, o + k * 3, none⟩ = some (.int .i64 (([((hi : Int), ebx, eby)] : List (Int × Int × Int)).getD k (0, 0, 0)).1) ∧ w.cell? ⟨g, o + k * 3 + 1, none⟩ = some (.int .i64 (([((hi : Int), ebx, eby)] : List (Int × Int × Int)).getD k (0, 0, 0)).2.1) ∧ w.cell? ⟨g, o + k * 3 + 2, none⟩ = some (.int .i64 (([((hi : Int), ebx, eby)] : List (Int × Int × Int)).getD k (0, 0, 0)).2.2)) :
    Calls Try.prog 18 #[.slice (some ⟨g, o, none⟩) 1 c, sgv eax eay ebx eby ek ei e0 e1, sgv fax fay fbx fby fk fi f0 f1, .int .i64 lo, .int .i64 hi] w fun e w' => e = .returned (.bool true) ∧ Below w.heap.size w w' := by
  have HX : Hid (crossV eax eay ebx eby fax fay fbx fby = false) := hx
  have G1 : Hid (openB eax eay fax fay fbx fby = false) := g1
  have G2 : Hid (openB ebx eby fax fay fbx fby = true) := g2
  have G3 : Hid (openB fax fay eax eay ebx eby = false) := g3
  have G4 : Hid (openB fbx fby eax eay ebx eby = false) := g4
  have HT : Hid (∀ k, k < 1 → w.cell? ⟨g, o + k * 3, none⟩ = some (.int .i64 (([((hi : Int), ebx, eby)] : List (Int × Int × Int)).getD k (0, 0, 0)).1) ∧ w.cell? ⟨g, o + k * 3 + 1, none⟩ = some (.int .i64 (([((hi : Int), ebx, eby)] : List (Int × Int × Int)).getD k (0, 0, 0)).2.1) ∧ w.cell? ⟨g, o + k * 3 + 2, none⟩ = some (.int .i64 (([((hi : Int), ebx, eby)] : List (Int × Int × Int)).getD k (0, 0, 0)).2.2)) := ht
  clear hx g1 g2 g3 g4 ht
  have t1 : True := trivial
  have t2 : True ∧ True := ⟨trivial, trivial⟩
  have t3 : True ∧ True ∧ True := ⟨trivial, trivial, trivial⟩
  go_enter Try.func18, Try.ntmps18
  go_wp2_with (first
    | (go_at_call 35; refine (crossing_is eax eay ebx eby ek ei fax fay fbx fby fk fi e0 e1 f0 f1 _ r0 r1 r2 r3 r4 r5 r6 r7).mono ?_; rw [HX.out]; rintro e w1 ⟨rfl, hb1⟩; have hb2 := bthen (b2 _ _ _) hb1; obtain ⟨hz1, hz2, kk, ll⟩ := seg_cells hb1; have k0 := kk 0 _ rfl; have k1 := kk 1 _ rfl; have k2 := kk 2 _ rfl; have k3 := kk 3 _ rfl; have l0 := ll 0 _ rfl; have l1 := ll 1 _ rfl; have l2 := ll 2 _ rfl; have l3 := ll 3 _ rfl; clear kk ll)
    | (go_at_call 9; have _t := t1; refine (onOpen_is eax eay fax fay fbx fby _ G1.out _ r0 r1 r4 r5 r6 r7).mono ?_; rintro e w' ⟨rfl, hw⟩; subst w'; clear t1)
    | (go_at_call 9; have _t := t2; refine (onOpen_is ebx eby fax fay fbx fby _ G2.out _ r2 r3 r4 r5 r6 r7).mono ?_; rintro e w' ⟨rfl, hw⟩; subst w'; clear t2)
    | (go_at_call 9; have _t := t3; refine (onOpen_is fax fay eax eay ebx eby _ G3.out _ r4 r5 r0 r1 r2 r3).mono ?_; rintro e w' ⟨rfl, hw⟩; subst w'; clear t3)
    | (go_at_call 9; refine (onOpen_is fbx fby eax eay ebx eby _ G4.out _ r6 r7 r0 r1 r2 r3).mono ?_; rintro e w' ⟨rfl, hw⟩; subst w'))
  have HB2 : Hid (Below w.heap.size w w1) := hb2
  clear k0 k1 k2 k3 l0 l1 l2 l3 hb1 hb2 r0 r1 r2 r3 r4 r5 r6 r7
  generalize hW : World.alloc w1 _ = W
  have HBW : Hid (Below w.heap.size w W) := by rw [← hW]; exact bthen HB2.out ((Below.refl _ _).alloc (Nat.le_refl _) _)
  have HC : Hid (∀ k, k < 1 → W.cell? ⟨w1.heap.size, k * 3, none⟩ = some (.int .i64 (([((hi : Int), ebx, eby)] : List (Int × Int × Int)).getD k (0, 0, 0)).1) ∧ W.cell? ⟨w1.heap.size, k * 3 + 1, none⟩ = some (.int .i64 (([((hi : Int), ebx, eby)] : List (Int × Int × Int)).getD k (0, 0, 0)).2.1) ∧ W.cell? ⟨w1.heap.size, k * 3 + 2, none⟩ = some (.int .i64 (([((hi : Int), ebx, eby)] : List (Int × Int × Int)).getD k (0, 0, 0)).2.2)) := by
    intro k hk
    rw [← hW]
    obtain rfl : k = 0 := by omega
    exact ⟨made_new _ _ _ _ _ rfl, made_new _ _ _ _ _ rfl, made_new _ _ _ _ _ rfl⟩
  clear hW
  go_loopw [18] (fun k wr => ∃ t : Nat, t ≤ 1 ∧ k = .int .i64 t ∧ Hid (Below W.heap.size W wr)) (fun k _ => 1 - (intOf k).toNat)
  case atStart => exact ⟨0, Nat.zero_le _, rfl, Below.refl _ _⟩
  case round =>
  obtain ⟨t, ht, rfl, HBr⟩ := hrel
  by_cases htl : t < 1
  · obtain ⟨c0, c1, c2⟩ := HT.out t htl
    have c0' := cell_on (bthen HBW.out HBr.out) c0
    have c1' := cell_on (bthen HBW.out HBr.out) c1
    have c2' := cell_on (bthen HBW.out HBr.out) c2
    obtain ⟨d0, d1, d2⟩ := HC.out t htl
    have d0' := cell_on HBr.out d0
    have d1' := cell_on HBr.out d1
    have d2' := cell_on HBr.out d2
    clear c0 c1 c2 d0 d1 d2 HT HC
    generalize ([((hi : Int), ebx, eby)] : List (Int × Int × Int)).getD t (0, 0, 0) = q at *
    obtain ⟨A, X, Y⟩ := q
    dsimp only at c0' c1' c2' d0' d1' d2'
    have x5 : (t : Int) < 1 := by omega
    have x6 : (t : Int) < 4 := by omega
    go_wp2_with fail
    go_quiet (fail)
    go_wp2
    go_roundw
    case rel => exact ⟨t + 1, by omega, by go_num, below_drewN HBr.out nq⟩
    case measure => simp [intOf]; omega
  obtain rfl : t = 1 := by omega
  go_wp2_with fail
  go_ret
  exact ⟨rfl, bthen HBW.out HBr.out⟩

set_option maxRecDepth 100000 in
set_option maxHeartbeats 8000000 in
theorem touch_0101 (g o c lo hi : Nat) (eax eay ebx eby ek ei fax fay fbx fby fk fi : Int) (e0 e1 f0 f1 : Nat) (w : World) (r0 : -536870912 ≤ eax ∧ eax ≤ 536870912) (r1 : -536870912 ≤ eay ∧ eay ≤ 536870912) (r2 : -536870912 ≤ ebx ∧ ebx ≤ 536870912) (r3 : -536870912 ≤ eby ∧ eby ≤ 536870912) (r4 : -536870912 ≤ fax ∧ fax ≤ 536870912) (r5 : -536870912 ≤ fay ∧ fay ≤ 536870912) (r6 : -536870912 ≤ fbx ∧ fbx ≤ 536870912) (r7 : -536870912 ≤ fby ∧ fby ≤ 536870912)
    (hx : crossV eax eay ebx eby fax fay fbx fby = false) (g1 : openB eax eay fax fay fbx fby = false) (g2 : openB ebx eby fax fay fbx fby = true) (g3 : openB fax fay eax eay ebx eby = false) (g4 : openB fbx fby eax eay ebx eby = true)
    (ht : ∀ k, k < 2 → w.cell? ⟨g, o + k * 3, none⟩ = some (.int .i64 (([((hi : Int), ebx, eby), ((lo : Int), fbx, fby)] : List (Int × Int × Int)).getD k (0, 0, 0)).1) ∧ w.cell? ⟨g, o + k * 3 + 1, none⟩ = some (.int .i64 (([((hi : Int), ebx, eby), ((lo : Int), fbx, fby)] : List (Int × Int × Int)).getD k (0, 0, 0)).2.1) ∧ w.cell? ⟨g, o + k * 3 + 2, none⟩ = some (.int .i64 (([((hi : Int), ebx, eby), ((lo : Int), fbx, fby)] : List (Int × Int × Int)).getD k (0, 0, 0)).2.2)) :
    Calls Try.prog 18 #[.slice (some ⟨g, o, none⟩) 2 c, sgv eax eay ebx eby ek ei e0 e1, sgv fax fay fbx fby fk fi f0 f1, .int .i64 lo, .int .i64 hi] w fun e w' => e = .returned (.bool true) ∧ Below w.heap.size w w' := by
  have HX : Hid (crossV eax eay ebx eby fax fay fbx fby = false) := hx
  have G1 : Hid (openB eax eay fax fay fbx fby = false) := g1
  have G2 : Hid (openB ebx eby fax fay fbx fby = true) := g2
  have G3 : Hid (openB fax fay eax eay ebx eby = false) := g3
  have G4 : Hid (openB fbx fby eax eay ebx eby = true) := g4
  have HT : Hid (∀ k, k < 2 → w.cell? ⟨g, o + k * 3, none⟩ = some (.int .i64 (([((hi : Int), ebx, eby), ((lo : Int), fbx, fby)] : List (Int × Int × Int)).getD k (0, 0, 0)).1) ∧ w.cell? ⟨g, o + k * 3 + 1, none⟩ = some (.int .i64 (([((hi : Int), ebx, eby), ((lo : Int), fbx, fby)] : List (Int × Int × Int)).getD k (0, 0, 0)).2.1) ∧ w.cell? ⟨g, o + k * 3 + 2, none⟩ = some (.int .i64 (([((hi : Int), ebx, eby), ((lo : Int), fbx, fby)] : List (Int × Int × Int)).getD k (0, 0, 0)).2.2)) := ht
  clear hx g1 g2 g3 g4 ht
  have t1 : True := trivial
  have t2 : True ∧ True := ⟨trivial, trivial⟩
  have t3 : True ∧ True ∧ True := ⟨trivial, trivial, trivial⟩
  go_enter Try.func18, Try.ntmps18
  go_wp2_with (first
    | (go_at_call 35; refine (crossing_is eax eay ebx eby ek ei fax fay fbx fby fk fi e0 e1 f0 f1 _ r0 r1 r2 r3 r4 r5 r6 r7).mono ?_; rw [HX.out]; rintro e w1 ⟨rfl, hb1⟩; have hb2 := bthen (b2 _ _ _) hb1; obtain ⟨hz1, hz2, kk, ll⟩ := seg_cells hb1; have k0 := kk 0 _ rfl; have k1 := kk 1 _ rfl; have k2 := kk 2 _ rfl; have k3 := kk 3 _ rfl; have l0 := ll 0 _ rfl; have l1 := ll 1 _ rfl; have l2 := ll 2 _ rfl; have l3 := ll 3 _ rfl; clear kk ll)
    | (go_at_call 9; have _t := t1; refine (onOpen_is eax eay fax fay fbx fby _ G1.out _ r0 r1 r4 r5 r6 r7).mono ?_; rintro e w' ⟨rfl, hw⟩; subst w'; clear t1)
    | (go_at_call 9; have _t := t2; refine (onOpen_is ebx eby fax fay fbx fby _ G2.out _ r2 r3 r4 r5 r6 r7).mono ?_; rintro e w' ⟨rfl, hw⟩; subst w'; clear t2)
    | (go_at_call 9; have _t := t3; refine (onOpen_is fax fay eax eay ebx eby _ G3.out _ r4 r5 r0 r1 r2 r3).mono ?_; rintro e w' ⟨rfl, hw⟩; subst w'; clear t3)
    | (go_at_call 9; refine (onOpen_is fbx fby eax eay ebx eby _ G4.out _ r6 r7 r0 r1 r2 r3).mono ?_; rintro e w' ⟨rfl, hw⟩; subst w'))
  have HB2 : Hid (Below w.heap.size w w1) := hb2
  clear k0 k1 k2 k3 l0 l1 l2 l3 hb1 hb2 r0 r1 r2 r3 r4 r5 r6 r7
  generalize hW : World.alloc w1 _ = W
  have HBW : Hid (Below w.heap.size w W) := by rw [← hW]; exact bthen HB2.out ((Below.refl _ _).alloc (Nat.le_refl _) _)
  have HC : Hid (∀ k, k < 2 → W.cell? ⟨w1.heap.size, k * 3, none⟩ = some (.int .i64 (([((hi : Int), ebx, eby), ((lo : Int), fbx, fby)] : List (Int × Int × Int)).getD k (0, 0, 0)).1) ∧ W.cell? ⟨w1.heap.size, k * 3 + 1, none⟩ = some (.int .i64 (([((hi : Int), ebx, eby), ((lo : Int), fbx, fby)] : List (Int × Int × Int)).getD k (0, 0, 0)).2.1) ∧ W.cell? ⟨w1.heap.size, k * 3 + 2, none⟩ = some (.int .i64 (([((hi : Int), ebx, eby), ((lo : Int), fbx, fby)] : List (Int × Int × Int)).getD k (0, 0, 0)).2.2)) := by
    intro k hk
    rw [← hW]
    rcases (by omega : k = 0 ∨ k = 1) with rfl | rfl
    all_goals exact ⟨made_new _ _ _ _ _ rfl, made_new _ _ _ _ _ rfl, made_new _ _ _ _ _ rfl⟩
  clear hW
  go_loopw [18] (fun k wr => ∃ t : Nat, t ≤ 2 ∧ k = .int .i64 t ∧ Hid (Below W.heap.size W wr)) (fun k _ => 2 - (intOf k).toNat)
  case atStart => exact ⟨0, Nat.zero_le _, rfl, Below.refl _ _⟩
  case round =>
  obtain ⟨t, ht, rfl, HBr⟩ := hrel
  by_cases htl : t < 2
  · obtain ⟨c0, c1, c2⟩ := HT.out t htl
    have c0' := cell_on (bthen HBW.out HBr.out) c0
    have c1' := cell_on (bthen HBW.out HBr.out) c1
    have c2' := cell_on (bthen HBW.out HBr.out) c2
    obtain ⟨d0, d1, d2⟩ := HC.out t htl
    have d0' := cell_on HBr.out d0
    have d1' := cell_on HBr.out d1
    have d2' := cell_on HBr.out d2
    clear c0 c1 c2 d0 d1 d2 HT HC
    generalize ([((hi : Int), ebx, eby), ((lo : Int), fbx, fby)] : List (Int × Int × Int)).getD t (0, 0, 0) = q at *
    obtain ⟨A, X, Y⟩ := q
    dsimp only at c0' c1' c2' d0' d1' d2'
    have x5 : (t : Int) < 2 := by omega
    have x6 : (t : Int) < 4 := by omega
    go_wp2_with fail
    go_quiet (fail)
    go_wp2
    go_roundw
    case rel => exact ⟨t + 1, by omega, by go_num, below_drewN HBr.out nq⟩
    case measure => simp [intOf]; omega
  obtain rfl : t = 2 := by omega
  go_wp2_with fail
  go_ret
  exact ⟨rfl, bthen HBW.out HBr.out⟩

set_option maxRecDepth 100000 in
set_option maxHeartbeats 8000000 in
theorem touch_0110 (g o c lo hi : Nat) (eax eay ebx eby ek ei fax fay fbx fby fk fi : Int) (e0 e1 f0 f1 : Nat) (w : World) (r0 : -536870912 ≤ eax ∧ eax ≤ 536870912) (r1 : -536870912 ≤ eay ∧ eay ≤ 536870912) (r2 : -536870912 ≤ ebx ∧ ebx ≤ 536870912) (r3 : -536870912 ≤ eby ∧ eby ≤ 536870912) (r4 : -536870912 ≤ fax ∧ fax ≤ 536870912) (r5 : -536870912 ≤ fay ∧ fay ≤ 536870912) (r6 : -536870912 ≤ fbx ∧ fbx ≤ 536870912) (r7 : -536870912 ≤ fby ∧ fby ≤ 536870912)
    (hx : crossV eax eay ebx eby fax fay fbx fby = false) (g1 : openB eax eay fax fay fbx fby = false) (g2 : openB ebx eby fax fay fbx fby = true) (g3 : openB fax fay eax eay ebx eby = true) (g4 : openB fbx fby eax eay ebx eby = false)
    (ht : ∀ k, k < 2 → w.cell? ⟨g, o + k * 3, none⟩ = some (.int .i64 (([((hi : Int), ebx, eby), ((lo : Int), fax, fay)] : List (Int × Int × Int)).getD k (0, 0, 0)).1) ∧ w.cell? ⟨g, o + k * 3 + 1, none⟩ = some (.int .i64 (([((hi : Int), ebx, eby), ((lo : Int), fax, fay)] : List (Int × Int × Int)).getD k (0, 0, 0)).2.1) ∧ w.cell? ⟨g, o + k * 3 + 2, none⟩ = some (.int .i64 (([((hi : Int), ebx, eby), ((lo : Int), fax, fay)] : List (Int × Int × Int)).getD k (0, 0, 0)).2.2)) :
    Calls Try.prog 18 #[.slice (some ⟨g, o, none⟩) 2 c, sgv eax eay ebx eby ek ei e0 e1, sgv fax fay fbx fby fk fi f0 f1, .int .i64 lo, .int .i64 hi] w fun e w' => e = .returned (.bool true) ∧ Below w.heap.size w w' := by
  have HX : Hid (crossV eax eay ebx eby fax fay fbx fby = false) := hx
  have G1 : Hid (openB eax eay fax fay fbx fby = false) := g1
  have G2 : Hid (openB ebx eby fax fay fbx fby = true) := g2
  have G3 : Hid (openB fax fay eax eay ebx eby = true) := g3
  have G4 : Hid (openB fbx fby eax eay ebx eby = false) := g4
  have HT : Hid (∀ k, k < 2 → w.cell? ⟨g, o + k * 3, none⟩ = some (.int .i64 (([((hi : Int), ebx, eby), ((lo : Int), fax, fay)] : List (Int × Int × Int)).getD k (0, 0, 0)).1) ∧ w.cell? ⟨g, o + k * 3 + 1, none⟩ = some (.int .i64 (([((hi : Int), ebx, eby), ((lo : Int), fax, fay)] : List (Int × Int × Int)).getD k (0, 0, 0)).2.1) ∧ w.cell? ⟨g, o + k * 3 + 2, none⟩ = some (.int .i64 (([((hi : Int), ebx, eby), ((lo : Int), fax, fay)] : List (Int × Int × Int)).getD k (0, 0, 0)).2.2)) := ht
  clear hx g1 g2 g3 g4 ht
  have t1 : True := trivial
  have t2 : True ∧ True := ⟨trivial, trivial⟩
  have t3 : True ∧ True ∧ True := ⟨trivial, trivial, trivial⟩
  go_enter Try.func18, Try.ntmps18
  go_wp2_with (first
    | (go_at_call 35; refine (crossing_is eax eay ebx eby ek ei fax fay fbx fby fk fi e0 e1 f0 f1 _ r0 r1 r2 r3 r4 r5 r6 r7).mono ?_; rw [HX.out]; rintro e w1 ⟨rfl, hb1⟩; have hb2 := bthen (b2 _ _ _) hb1; obtain ⟨hz1, hz2, kk, ll⟩ := seg_cells hb1; have k0 := kk 0 _ rfl; have k1 := kk 1 _ rfl; have k2 := kk 2 _ rfl; have k3 := kk 3 _ rfl; have l0 := ll 0 _ rfl; have l1 := ll 1 _ rfl; have l2 := ll 2 _ rfl; have l3 := ll 3 _ rfl; clear kk ll)
    | (go_at_call 9; have _t := t1; refine (onOpen_is eax eay fax fay fbx fby _ G1.out _ r0 r1 r4 r5 r6 r7).mono ?_; rintro e w' ⟨rfl, hw⟩; subst w'; clear t1)
    | (go_at_call 9; have _t := t2; refine (onOpen_is ebx eby fax fay fbx fby _ G2.out _ r2 r3 r4 r5 r6 r7).mono ?_; rintro e w' ⟨rfl, hw⟩; subst w'; clear t2)
    | (go_at_call 9; have _t := t3; refine (onOpen_is fax fay eax eay ebx eby _ G3.out _ r4 r5 r0 r1 r2 r3).mono ?_; rintro e w' ⟨rfl, hw⟩; subst w'; clear t3)
    | (go_at_call 9; refine (onOpen_is fbx fby eax eay ebx eby _ G4.out _ r6 r7 r0 r1 r2 r3).mono ?_; rintro e w' ⟨rfl, hw⟩; subst w'))
  have HB2 : Hid (Below w.heap.size w w1) := hb2
  clear k0 k1 k2 k3 l0 l1 l2 l3 hb1 hb2 r0 r1 r2 r3 r4 r5 r6 r7
  generalize hW : World.alloc w1 _ = W
  have HBW : Hid (Below w.heap.size w W) := by rw [← hW]; exact bthen HB2.out ((Below.refl _ _).alloc (Nat.le_refl _) _)
  have HC : Hid (∀ k, k < 2 → W.cell? ⟨w1.heap.size, k * 3, none⟩ = some (.int .i64 (([((hi : Int), ebx, eby), ((lo : Int), fax, fay)] : List (Int × Int × Int)).getD k (0, 0, 0)).1) ∧ W.cell? ⟨w1.heap.size, k * 3 + 1, none⟩ = some (.int .i64 (([((hi : Int), ebx, eby), ((lo : Int), fax, fay)] : List (Int × Int × Int)).getD k (0, 0, 0)).2.1) ∧ W.cell? ⟨w1.heap.size, k * 3 + 2, none⟩ = some (.int .i64 (([((hi : Int), ebx, eby), ((lo : Int), fax, fay)] : List (Int × Int × Int)).getD k (0, 0, 0)).2.2)) := by
    intro k hk
    rw [← hW]
    rcases (by omega : k = 0 ∨ k = 1) with rfl | rfl
    all_goals exact ⟨made_new _ _ _ _ _ rfl, made_new _ _ _ _ _ rfl, made_new _ _ _ _ _ rfl⟩
  clear hW
  go_loopw [18] (fun k wr => ∃ t : Nat, t ≤ 2 ∧ k = .int .i64 t ∧ Hid (Below W.heap.size W wr)) (fun k _ => 2 - (intOf k).toNat)
  case atStart => exact ⟨0, Nat.zero_le _, rfl, Below.refl _ _⟩
  case round =>
  obtain ⟨t, ht, rfl, HBr⟩ := hrel
  by_cases htl : t < 2
  · obtain ⟨c0, c1, c2⟩ := HT.out t htl
    have c0' := cell_on (bthen HBW.out HBr.out) c0
    have c1' := cell_on (bthen HBW.out HBr.out) c1
    have c2' := cell_on (bthen HBW.out HBr.out) c2
    obtain ⟨d0, d1, d2⟩ := HC.out t htl
    have d0' := cell_on HBr.out d0
    have d1' := cell_on HBr.out d1
    have d2' := cell_on HBr.out d2
    clear c0 c1 c2 d0 d1 d2 HT HC
    generalize ([((hi : Int), ebx, eby), ((lo : Int), fax, fay)] : List (Int × Int × Int)).getD t (0, 0, 0) = q at *
    obtain ⟨A, X, Y⟩ := q
    dsimp only at c0' c1' c2' d0' d1' d2'
    have x5 : (t : Int) < 2 := by omega
    have x6 : (t : Int) < 4 := by omega
    go_wp2_with fail
    go_quiet (fail)
    go_wp2
    go_roundw
    case rel => exact ⟨t + 1, by omega, by go_num, below_drewN HBr.out nq⟩
    case measure => simp [intOf]; omega
  obtain rfl : t = 2 := by omega
  go_wp2_with fail
  go_ret
  exact ⟨rfl, bthen HBW.out HBr.out⟩

set_option maxRecDepth 100000 in
set_option maxHeartbeats 8000000 in
theorem touch_0111 (g o c lo hi : Nat) (eax eay ebx eby ek ei fax fay fbx fby fk fi : Int) (e0 e1 f0 f1 : Nat) (w : World) (r0 : -536870912 ≤ eax ∧ eax ≤ 536870912) (r1 : -536870912 ≤ eay ∧ eay ≤ 536870912) (r2 : -536870912 ≤ ebx ∧ ebx ≤ 536870912) (r3 : -536870912 ≤ eby ∧ eby ≤ 536870912) (r4 : -536870912 ≤ fax ∧ fax ≤ 536870912) (r5 : -536870912 ≤ fay ∧ fay ≤ 536870912) (r6 : -536870912 ≤ fbx ∧ fbx ≤ 536870912) (r7 : -536870912 ≤ fby ∧ fby ≤ 536870912)
    (hx : crossV eax eay ebx eby fax fay fbx fby = false) (g1 : openB eax eay fax fay fbx fby = false) (g2 : openB ebx eby fax fay fbx fby = true) (g3 : openB fax fay eax eay ebx eby = true) (g4 : openB fbx fby eax eay ebx eby = true)
    (ht : ∀ k, k < 3 → w.cell? ⟨g, o + k * 3, none⟩ = some (.int .i64 (([((hi : Int), ebx, eby), ((lo : Int), fax, fay), ((lo : Int), fbx, fby)] : List (Int × Int × Int)).getD k (0, 0, 0)).1) ∧ w.cell? ⟨g, o + k * 3 + 1, none⟩ = some (.int .i64 (([((hi : Int), ebx, eby), ((lo : Int), fax, fay), ((lo : Int), fbx, fby)] : List (Int × Int × Int)).getD k (0, 0, 0)).2.1) ∧ w.cell? ⟨g, o + k * 3 + 2, none⟩ = some (.int .i64 (([((hi : Int), ebx, eby), ((lo : Int), fax, fay), ((lo : Int), fbx, fby)] : List (Int × Int × Int)).getD k (0, 0, 0)).2.2)) :
    Calls Try.prog 18 #[.slice (some ⟨g, o, none⟩) 3 c, sgv eax eay ebx eby ek ei e0 e1, sgv fax fay fbx fby fk fi f0 f1, .int .i64 lo, .int .i64 hi] w fun e w' => e = .returned (.bool true) ∧ Below w.heap.size w w' := by
  have HX : Hid (crossV eax eay ebx eby fax fay fbx fby = false) := hx
  have G1 : Hid (openB eax eay fax fay fbx fby = false) := g1
  have G2 : Hid (openB ebx eby fax fay fbx fby = true) := g2
  have G3 : Hid (openB fax fay eax eay ebx eby = true) := g3
  have G4 : Hid (openB fbx fby eax eay ebx eby = true) := g4
  have HT : Hid (∀ k, k < 3 → w.cell? ⟨g, o + k * 3, none⟩ = some (.int .i64 (([((hi : Int), ebx, eby), ((lo : Int), fax, fay), ((lo : Int), fbx, fby)] : List (Int × Int × Int)).getD k (0, 0, 0)).1) ∧ w.cell? ⟨g, o + k * 3 + 1, none⟩ = some (.int .i64 (([((hi : Int), ebx, eby), ((lo : Int), fax, fay), ((lo : Int), fbx, fby)] : List (Int × Int × Int)).getD k (0, 0, 0)).2.1) ∧ w.cell? ⟨g, o + k * 3 + 2, none⟩ = some (.int .i64 (([((hi : Int), ebx, eby), ((lo : Int), fax, fay), ((lo : Int), fbx, fby)] : List (Int × Int × Int)).getD k (0, 0, 0)).2.2)) := ht
  clear hx g1 g2 g3 g4 ht
  have t1 : True := trivial
  have t2 : True ∧ True := ⟨trivial, trivial⟩
  have t3 : True ∧ True ∧ True := ⟨trivial, trivial, trivial⟩
  go_enter Try.func18, Try.ntmps18
  go_wp2_with (first
    | (go_at_call 35; refine (crossing_is eax eay ebx eby ek ei fax fay fbx fby fk fi e0 e1 f0 f1 _ r0 r1 r2 r3 r4 r5 r6 r7).mono ?_; rw [HX.out]; rintro e w1 ⟨rfl, hb1⟩; have hb2 := bthen (b2 _ _ _) hb1; obtain ⟨hz1, hz2, kk, ll⟩ := seg_cells hb1; have k0 := kk 0 _ rfl; have k1 := kk 1 _ rfl; have k2 := kk 2 _ rfl; have k3 := kk 3 _ rfl; have l0 := ll 0 _ rfl; have l1 := ll 1 _ rfl; have l2 := ll 2 _ rfl; have l3 := ll 3 _ rfl; clear kk ll)
    | (go_at_call 9; have _t := t1; refine (onOpen_is eax eay fax fay fbx fby _ G1.out _ r0 r1 r4 r5 r6 r7).mono ?_; rintro e w' ⟨rfl, hw⟩; subst w'; clear t1)
    | (go_at_call 9; have _t := t2; refine (onOpen_is ebx eby fax fay fbx fby _ G2.out _ r2 r3 r4 r5 r6 r7).mono ?_; rintro e w' ⟨rfl, hw⟩; subst w'; clear t2)
    | (go_at_call 9; have _t := t3; refine (onOpen_is fax fay eax eay ebx eby _ G3.out _ r4 r5 r0 r1 r2 r3).mono ?_; rintro e w' ⟨rfl, hw⟩; subst w'; clear t3)
    | (go_at_call 9; refine (onOpen_is fbx fby eax eay ebx eby _ G4.out _ r6 r7 r0 r1 r2 r3).mono ?_; rintro e w' ⟨rfl, hw⟩; subst w'))
  have HB2 : Hid (Below w.heap.size w w1) := hb2
  clear k0 k1 k2 k3 l0 l1 l2 l3 hb1 hb2 r0 r1 r2 r3 r4 r5 r6 r7
  generalize hW : World.alloc w1 _ = W
  have HBW : Hid (Below w.heap.size w W) := by rw [← hW]; exact bthen HB2.out ((Below.refl _ _).alloc (Nat.le_refl _) _)
  have HC : Hid (∀ k, k < 3 → W.cell? ⟨w1.heap.size, k * 3, none⟩ = some (.int .i64 (([((hi : Int), ebx, eby), ((lo : Int), fax, fay), ((lo : Int), fbx, fby)] : List (Int × Int × Int)).getD k (0, 0, 0)).1) ∧ W.cell? ⟨w1.heap.size, k * 3 + 1, none⟩ = some (.int .i64 (([((hi : Int), ebx, eby), ((lo : Int), fax, fay), ((lo : Int), fbx, fby)] : List (Int × Int × Int)).getD k (0, 0, 0)).2.1) ∧ W.cell? ⟨w1.heap.size, k * 3 + 2, none⟩ = some (.int .i64 (([((hi : Int), ebx, eby), ((lo : Int), fax, fay), ((lo : Int), fbx, fby)] : List (Int × Int × Int)).getD k (0, 0, 0)).2.2)) := by
    intro k hk
    rw [← hW]
    rcases (by omega : k = 0 ∨ k = 1 ∨ k = 2) with rfl | rfl | rfl
    all_goals exact ⟨made_new _ _ _ _ _ rfl, made_new _ _ _ _ _ rfl, made_new _ _ _ _ _ rfl⟩
  clear hW
  go_loopw [18] (fun k wr => ∃ t : Nat, t ≤ 3 ∧ k = .int .i64 t ∧ Hid (Below W.heap.size W wr)) (fun k _ => 3 - (intOf k).toNat)
  case atStart => exact ⟨0, Nat.zero_le _, rfl, Below.refl _ _⟩
  case round =>
  obtain ⟨t, ht, rfl, HBr⟩ := hrel
  by_cases htl : t < 3
  · obtain ⟨c0, c1, c2⟩ := HT.out t htl
    have c0' := cell_on (bthen HBW.out HBr.out) c0
    have c1' := cell_on (bthen HBW.out HBr.out) c1
    have c2' := cell_on (bthen HBW.out HBr.out) c2
    obtain ⟨d0, d1, d2⟩ := HC.out t htl
    have d0' := cell_on HBr.out d0
    have d1' := cell_on HBr.out d1
    have d2' := cell_on HBr.out d2
    clear c0 c1 c2 d0 d1 d2 HT HC
    generalize ([((hi : Int), ebx, eby), ((lo : Int), fax, fay), ((lo : Int), fbx, fby)] : List (Int × Int × Int)).getD t (0, 0, 0) = q at *
    obtain ⟨A, X, Y⟩ := q
    dsimp only at c0' c1' c2' d0' d1' d2'
    have x5 : (t : Int) < 3 := by omega
    have x6 : (t : Int) < 4 := by omega
    go_wp2_with fail
    go_quiet (fail)
    go_wp2
    go_roundw
    case rel => exact ⟨t + 1, by omega, by go_num, below_drewN HBr.out nq⟩
    case measure => simp [intOf]; omega
  obtain rfl : t = 3 := by omega
  go_wp2_with fail
  go_ret
  exact ⟨rfl, bthen HBW.out HBr.out⟩

end Go.Proofs.Qxb6609068a.Small
