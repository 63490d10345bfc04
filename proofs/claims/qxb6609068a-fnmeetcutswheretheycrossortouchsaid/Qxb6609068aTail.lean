/-
  CONTRACT of meetTailRight on the cuts that meet makes.
-/
import Derived.Test.Qxb6609068aBox
import Derived.Test.Qxb6609068aNear
import Derived.Test.Qxb6609068aMoved
import Derived.Deep.DeepCutAuto
import Derived.Deep.LoopGhost
import Derived.Laws.StructEq
namespace Go.Proofs.Qxb6609068a.Small
open Go.ChangeShapes Go.WideShapes Go.ChangeAt Go.RowKit
set_option linter.unusedVariables false
attribute [local go_sem] run_store_float

theorem made_first (w : World) (vs us : Array Value) (t s : TypeId) (i : Nat) (v : Value) (h : vs[i]? = some v) : ((w.alloc (.cells vs t)).alloc (.cells us s)).cell? ⟨w.heap.size, i, none⟩ = some v := by
  simp only [World.cell?, World.alloc]
  simp [h, Array.getElem?_push]
theorem made_new (w : World) (vs : Array Value) (t : TypeId) (i : Nat) (v : Value) (h : vs[i]? = some v) : (w.alloc (.cells vs t)).cell? ⟨w.heap.size, i, none⟩ = some v := by
  simp only [World.cell?, World.alloc]
  simp [h]
theorem made_second (w : World) (vs us : Array Value) (t s : TypeId) (i : Nat) (v : Value) (h : us[i]? = some v) : ((w.alloc (.cells vs t)).alloc (.cells us s)).cell? ⟨w.heap.size + 1, i, none⟩ = some v := by
  have e : (w.alloc (.cells vs t)).heap.size = w.heap.size + 1 := by simp
  rw [← e]
  exact made_new _ us s i v h

theorem seg_cells {w w1 : World} {vs us : Array Value} {t s : TypeId} (hb : Below ((w.alloc (.cells vs t)).alloc (.cells us s)).heap.size ((w.alloc (.cells vs t)).alloc (.cells us s)) w1) :
    w.heap.size + 1 < w1.heap.size ∧ w.heap.size < w1.heap.size ∧ (∀ i v, vs[i]? = some v → w1.cell? ⟨w.heap.size, i, none⟩ = some v) ∧ (∀ i v, us[i]? = some v → w1.cell? ⟨w.heap.size + 1, i, none⟩ = some v) := by
  have hz := hb.size
  have e : ((w.alloc (.cells vs t)).alloc (.cells us s)).heap.size = w.heap.size + 2 := by simp
  rw [e] at hz
  refine ⟨by omega, by omega, fun i v h => ?_, fun i v h => ?_⟩
  · rw [hb.cell (by rw [e]; show w.heap.size < w.heap.size + 2; omega)]; exact made_first w vs us t s i v h
  · rw [hb.cell (by rw [e]; show w.heap.size + 1 < w.heap.size + 2; omega)]; exact made_second w vs us t s i v h

set_option maxRecDepth 100000 in
set_option maxHeartbeats 8000000 in
theorem tail_cross (g o c lo hi : Nat) (eax eay ebx eby ek ei fax fay fbx fby fk fi : Int) (e0 e1 f0 f1 : Nat) (n m : Int) (w : World) (r0 : -536870912 ≤ eax ∧ eax ≤ 536870912) (r1 : -536870912 ≤ eay ∧ eay ≤ 536870912) (r2 : -536870912 ≤ ebx ∧ ebx ≤ 536870912) (r3 : -536870912 ≤ eby ∧ eby ≤ 536870912) (r4 : -536870912 ≤ fax ∧ fax ≤ 536870912) (r5 : -536870912 ≤ fay ∧ fay ≤ 536870912) (r6 : -536870912 ≤ fbx ∧ fbx ≤ 536870912) (r7 : -536870912 ≤ fby ∧ fby ≤ 536870912)
    (c0 : w.cell? ⟨g, o, none⟩ = some (.int .i64 lo)) (c1 : w.cell? ⟨g, o + 1, none⟩ = some (.int .i64 (eax + n))) (c2 : w.cell? ⟨g, o + 2, none⟩ = some (.int .i64 (eay + m)))
    (c3 : w.cell? ⟨g, o + 3, none⟩ = some (.int .i64 hi)) (c4 : w.cell? ⟨g, o + 3 + 1, none⟩ = some (.int .i64 (eax + n))) (c5 : w.cell? ⟨g, o + 3 + 2, none⟩ = some (.int .i64 (eay + m)))
    (hx : crossV eax eay ebx eby fax fay fbx fby = true) (hC : CrossAt eax eay ebx eby fax fay fbx fby (oriZ fax fay fbx fby eax eay) (oriZ fax fay fbx fby eax eay - oriZ fax fay fbx fby ebx eby) n m) :
    Calls Try.prog 18 #[.slice (some ⟨g, o, none⟩) 2 c, sgv eax eay ebx eby ek ei e0 e1, sgv fax fay fbx fby fk fi f0 f1, .int .i64 lo, .int .i64 hi] w fun e w' => e = .returned (.bool true) ∧ Below w.heap.size w w' := by
  have HX : Hid (crossV eax eay ebx eby fax fay fbx fby = true) := hx
  have HC : Hid (CrossAt eax eay ebx eby fax fay fbx fby (oriZ fax fay fbx fby eax eay) (oriZ fax fay fbx fby eax eay - oriZ fax fay fbx fby ebx eby) n m) := hC
  have on := hC.offX
  have om := hC.offY
  obtain ⟨X, hX⟩ : ∃ X, eax + n = X := ⟨_, rfl⟩
  obtain ⟨Y, hY⟩ : ∃ Y, eay + m = Y := ⟨_, rfl⟩
  rw [hX] at c1 c4
  rw [hY] at c2 c5
  have BE : Hid (boxB X Y eax eay ebx eby = true) := by rw [← hX, ← hY]; exact hC.boxE
  have BF : Hid (boxB X Y fax fay fbx fby = true) := by rw [← hX, ← hY]; exact hC.boxF
  have tx : X - eax = n := by omega
  have ty : Y - eay = m := by omega
  have C0 : Hid (w.cell? ⟨g, o, none⟩ = some (.int .i64 lo)) := c0
  have C1 : Hid (w.cell? ⟨g, o + 1, none⟩ = some (.int .i64 X)) := c1
  have C2 : Hid (w.cell? ⟨g, o + 2, none⟩ = some (.int .i64 Y)) := c2
  have C3 : Hid (w.cell? ⟨g, o + 3, none⟩ = some (.int .i64 hi)) := c3
  have C4 : Hid (w.cell? ⟨g, o + 3 + 1, none⟩ = some (.int .i64 X)) := c4
  have C5 : Hid (w.cell? ⟨g, o + 3 + 2, none⟩ = some (.int .i64 Y)) := c5
  clear hx hC c0 c1 c2 c3 c4 c5
  have tok : True := trivial
  have tok2 : True ∧ True := ⟨trivial, trivial⟩
  go_enter Try.func18, Try.ntmps18
  go_wp2_with (first
    | (go_at_call 35; refine (crossing_is eax eay ebx eby ek ei fax fay fbx fby fk fi e0 e1 f0 f1 _ r0 r1 r2 r3 r4 r5 r6 r7).mono ?_; rw [HX.out]; rintro e w1 ⟨rfl, hb1⟩; have hb2 := bthen (b2 _ _ _) hb1; have c0 := cell_on hb2 C0.out; have c1 := cell_on hb2 C1.out; have c2 := cell_on hb2 C2.out; have c3 := cell_on hb2 C3.out; have c4 := cell_on hb2 C4.out; have c5 := cell_on hb2 C5.out; have hlg : g < w1.heap.size := World.block_lt_of_cell? _ _ c0; obtain ⟨hz1, hz2, kk, ll⟩ := seg_cells hb1; have k0 := kk 0 _ rfl; have k1 := kk 1 _ rfl; have k2 := kk 2 _ rfl; have k3 := kk 3 _ rfl; have l0 := ll 0 _ rfl; have l1 := ll 1 _ rfl; have l2 := ll 2 _ rfl; have l3 := ll 3 _ rfl; clear kk ll)
    | (go_at_call 29; have _t := tok; refine (inBox_is X Y eax eay ebx eby true BE.out _).mono ?_; rintro e w' ⟨rfl, hw⟩; subst w'; clear tok)
    | (go_at_call 29; refine (inBox_is X Y fax fay fbx fby true BF.out _).mono ?_; rintro e w' ⟨rfl, hw⟩; subst w')
    | (go_at_call 36; have _t := tok2; refine (near_is n _ _ (ebx - eax) true HC.out.nearX _ HC.out.offX HC.out.bdD HC.out.bd1 (by omega)).mono ?_; rintro e w' ⟨rfl, hw⟩; subst w'; clear tok2)
    | (go_at_call 36; refine (near_is m _ _ (eby - eay) true HC.out.nearY _ HC.out.offY HC.out.bdD HC.out.bd1 (by omega)).mono ?_; rintro e w' ⟨rfl, hw⟩; subst w'))
  go_ret
  exact ⟨rfl, bthen hb2 (b2 _ _ _)⟩

end Go.Proofs.Qxb6609068a.Small
