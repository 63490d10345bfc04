/-
  CONTRACTS of segInRange, openUnit, crossing, meetCount, and the plain laws that tie them to meet's cuts.
-/
import Derived.Test.Qxb6609068aBuild2
namespace Go.Proofs.Qxb6609068a.Small
open Go.ChangeShapes Go.WideShapes Go.ChangeAt Go.RowKit
set_option linter.unusedVariables false
attribute [local go_sem] run_store_float

theorem ret_int {k : IntKind} {a b : Int} (h : a = b) : Ending.returned (.int k a) = .returned (.int k b) := by rw [h]

abbrev sgv (ax ay bx by' rg ix : Int) (t0 t1 : Nat) : Value := .agg #[.int .i64 ax, .int .i64 ay, .int .i64 bx, .int .i64 by', .int .i64 rg, .int .i64 ix, .float .f64 t0, .float .f64 t1]

def segB (ax ay bx by' : Int) : Bool := inR ax && (inR ay && (inR bx && inR by'))

set_option maxHeartbeats 1000000 in
theorem segInRange_is (ax ay bx by' rg ix : Int) (t0 t1 : Nat) (b : Bool) (hb : segB ax ay bx by' = b) (w : World) :
    Calls Try.prog 13 #[sgv ax ay bx by' rg ix t0 t1] w fun e w' => e = .returned (.bool b) ∧ Below w.heap.size w w' := by
  unfold segB at hb
  have HB : Hid ((inR ax && (inR ay && (inR bx && inR by'))) = b) := hb
  clear hb
  cases h0 : inR ax
  · go_enter Try.func13, Try.ntmps13
    go_wp2_with (go_at_call 8; refine (inRange_is _ _ (by assumption) _).mono ?_; rintro e w' ⟨rfl, rfl⟩)
    go_ret
    exact ⟨ret_bool (by rw [← HB.out, h0]; rfl), (Below.refl _ _).alloc (Nat.le_refl _) _⟩
  cases h1 : inR ay
  · go_enter Try.func13, Try.ntmps13
    go_wp2_with (go_at_call 8; refine (inRange_is _ _ (by assumption) _).mono ?_; rintro e w' ⟨rfl, rfl⟩)
    go_ret
    exact ⟨ret_bool (by rw [← HB.out, h0, h1]; rfl), (Below.refl _ _).alloc (Nat.le_refl _) _⟩
  cases h2 : inR bx
  · go_enter Try.func13, Try.ntmps13
    go_wp2_with (go_at_call 8; refine (inRange_is _ _ (by assumption) _).mono ?_; rintro e w' ⟨rfl, rfl⟩)
    go_ret
    exact ⟨ret_bool (by rw [← HB.out, h0, h1, h2]; rfl), (Below.refl _ _).alloc (Nat.le_refl _) _⟩
  cases h3 : inR by'
  all_goals
    go_enter Try.func13, Try.ntmps13
    go_wp2_with (go_at_call 8; refine (inRange_is _ _ (by assumption) _).mono ?_; rintro e w' ⟨rfl, rfl⟩)
    go_ret
    exact ⟨ret_bool (by rw [← HB.out, h0, h1, h2, h3]; rfl), (Below.refl _ _).alloc (Nat.le_refl _) _⟩

/-- num / den lies strictly between 0 and 1 -/
def openU (num den : Int) : Bool := decide ((0 < den ∧ 0 < num ∧ num < den) ∨ (den ≤ 0 ∧ num < 0 ∧ den < num))

theorem openUnit_is (num den : Int) (b : Bool) (hb : openU num den = b) (w : World) :
    Calls Try.prog 42 #[.int .i64 num, .int .i64 den] w fun e w' => e = .returned (.bool b) ∧ w' = w := by
  have HB : Hid (openU num den = b) := hb
  clear hb
  go_enter Try.func42, Try.ntmps42
  go_wp2
  all_goals
    go_ret
    refine ⟨ret_bool ?_, rfl⟩
    rw [← HB.out]
    unfold openU
    first
    | (apply decide_eq_decide.mpr; omega)
    | (symm; apply decide_eq_false; omega)

/-! ### Cramer's numbers are meet's orientations -/
theorem cr_s (eax eay ebx eby fax fay fbx fby : Int) : (fax - eax) * (fby - fay) - (fay - eay) * (fbx - fax) = oriZ fax fay fbx fby eax eay := by
  unfold oriZ
  have e1 : (fbx - fax) * (eay - fay) = -((fay - eay) * (fbx - fax)) := by rw [← Int.neg_mul, Int.mul_comm]; congr 1; omega
  have e2 : (fby - fay) * (eax - fax) = -((fax - eax) * (fby - fay)) := by rw [← Int.neg_mul, Int.mul_comm]; congr 1; omega
  rw [e1, e2]; omega

theorem cr_den (eax eay ebx eby fax fay fbx fby : Int) : (ebx - eax) * (fby - fay) - (eby - eay) * (fbx - fax) = oriZ fax fay fbx fby eax eay - oriZ fax fay fbx fby ebx eby := by
  unfold oriZ
  have e1 : (fbx - fax) * (eay - fay) - (fbx - fax) * (eby - fay) = -((eby - eay) * (fbx - fax)) := by rw [← Int.mul_sub, ← Int.neg_mul, Int.mul_comm]; congr 1; omega
  have e2 : (fby - fay) * (eax - fax) - (fby - fay) * (ebx - fax) = -((ebx - eax) * (fby - fay)) := by rw [← Int.mul_sub, ← Int.neg_mul, Int.mul_comm]; congr 1; omega
  omega

theorem cr_t (eax eay ebx eby fax fay fbx fby : Int) : (fax - eax) * (eby - eay) - (fay - eay) * (ebx - eax) = -oriZ eax eay ebx eby fax fay := by
  unfold oriZ
  have e1 : (ebx - eax) * (fay - eay) = (fay - eay) * (ebx - eax) := Int.mul_comm _ _
  have e2 : (eby - eay) * (fax - eax) = (fax - eax) * (eby - eay) := Int.mul_comm _ _
  omega

theorem cr_d4 (eax eay ebx eby fax fay fbx fby : Int) : oriZ eax eay ebx eby fbx fby = oriZ fax fay fbx fby eax eay - oriZ fax fay fbx fby ebx eby + oriZ eax eay ebx eby fax fay := by
  rw [← cr_den]
  unfold oriZ
  have e1 : (ebx - eax) * (fby - eay) - (ebx - eax) * (fay - eay) = (ebx - eax) * (fby - fay) := by rw [← Int.mul_sub]; congr 1; omega
  have e2 : (eby - eay) * (fbx - eax) - (eby - eay) * (fax - eax) = (eby - eay) * (fbx - fax) := by rw [← Int.mul_sub]; congr 1; omega
  omega

/-- Cramer's rule says what the four orientations say -/
theorem cr_cross {d1 d2 d3 d4 den tn : Int} (h1 : den = d1 - d2) (h2 : tn = -d3) (h4 : d4 = d1 - d2 + d3) (h0 : den ≠ 0) : (openU d1 den && openU tn den) = crossB d1 d2 d3 d4 := by
  subst h1; subst h2; subst h4
  unfold openU crossB
  rw [Bool.eq_iff_iff]
  simp only [Bool.and_eq_true, Bool.or_eq_true, decide_eq_true_eq]
  omega

theorem cr_none {d1 d2 d3 d4 : Int} (h0 : d1 - d2 = 0) : crossB d1 d2 d3 d4 = false := by
  unfold crossB
  rw [Bool.eq_false_iff]
  simp only [ne_eq, Bool.and_eq_true, Bool.or_eq_true, decide_eq_true_eq]
  omega

/-- what the law's own crossing answers -/
def crossV (eax eay ebx eby fax fay fbx fby : Int) : Bool := crossB (oriZ fax fay fbx fby eax eay) (oriZ fax fay fbx fby ebx eby) (oriZ eax eay ebx eby fax fay) (oriZ eax eay ebx eby fbx fby)

theorem ret_cross {b b' : Bool} {x x' y y' : Int} (h1 : b = b') (h2 : x = x') (h3 : y = y') : Ending.returned (.tuple #[.bool b, .int .i64 x, .int .i64 y]) = .returned (.tuple #[.bool b', .int .i64 x', .int .i64 y']) := by rw [h1, h2, h3]

theorem b2 (w : World) (o1 o2 : Obj) : Below w.heap.size w ((w.alloc o1).alloc o2) := ((Below.refl _ _).alloc (Nat.le_refl _) _).alloc (by simp) _

set_option maxRecDepth 100000 in
set_option maxHeartbeats 2000000 in
theorem crossing_is (eax eay ebx eby ek ei fax fay fbx fby fk fi : Int) (e0 e1 f0 f1 : Nat) (w : World)
    (r0 : -536870912 ≤ eax ∧ eax ≤ 536870912) (r1 : -536870912 ≤ eay ∧ eay ≤ 536870912) (r2 : -536870912 ≤ ebx ∧ ebx ≤ 536870912) (r3 : -536870912 ≤ eby ∧ eby ≤ 536870912) (r4 : -536870912 ≤ fax ∧ fax ≤ 536870912) (r5 : -536870912 ≤ fay ∧ fay ≤ 536870912) (r6 : -536870912 ≤ fbx ∧ fbx ≤ 536870912) (r7 : -536870912 ≤ fby ∧ fby ≤ 536870912) :
    Calls Try.prog 35 #[sgv eax eay ebx eby ek ei e0 e1, sgv fax fay fbx fby fk fi f0 f1] w fun e w' =>
      e = .returned (.tuple #[.bool (crossV eax eay ebx eby fax fay fbx fby), .int .i64 (oriZ fax fay fbx fby eax eay - oriZ fax fay fbx fby ebx eby), .int .i64 (oriZ fax fay fbx fby eax eay)]) ∧ Below w.heap.size w w' := by
  have m1 := Plain.prod_bd (x := ebx - eax) (y := fby - fay) (by omega) (by omega)
  have m2 := Plain.prod_bd (x := eby - eay) (y := fbx - fax) (by omega) (by omega)
  have m3 := Plain.prod_bd (x := fax - eax) (y := fby - fay) (by omega) (by omega)
  have m4 := Plain.prod_bd (x := fay - eay) (y := fbx - fax) (by omega) (by omega)
  have m5 := Plain.prod_bd (x := fax - eax) (y := eby - eay) (by omega) (by omega)
  have m6 := Plain.prod_bd (x := fay - eay) (y := ebx - eax) (by omega) (by omega)
  have S1 : Hid _ := cr_den eax eay ebx eby fax fay fbx fby
  have S2 : Hid _ := cr_s eax eay ebx eby fax fay fbx fby
  have S3 : Hid _ := cr_t eax eay ebx eby fax fay fbx fby
  have S4 : Hid _ := cr_d4 eax eay ebx eby fax fay fbx fby
  by_cases hz : (ebx - eax) * (fby - fay) - (eby - eay) * (fbx - fax) = 0
  · have hzb : ((ebx - eax) * (fby - fay) - (eby - eay) * (fbx - fax) == 0) = true := by simp [hz]
    have HZ : Hid ((ebx - eax) * (fby - fay) - (eby - eay) * (fbx - fax) = 0) := hz
    clear hz
    go_enter Try.func35, Try.ntmps35
    go_wp2
    go_ret3
    refine ⟨ret_cross ?_ S1.out S2.out, b2 _ _ _⟩
    exact (cr_none (by rw [← S1.out]; exact HZ.out)).symm
  · have hzb : ((ebx - eax) * (fby - fay) - (eby - eay) * (fbx - fax) == 0) = false := by simp [hz]
    have HC : Hid _ := cr_cross (d1 := oriZ fax fay fbx fby eax eay) (d2 := oriZ fax fay fbx fby ebx eby) (d3 := oriZ eax eay ebx eby fax fay) (d4 := oriZ eax eay ebx eby fbx fby) S1.out S3.out S4.out hz
    obtain ⟨u, hu⟩ : ∃ u, openU ((fax - eax) * (fby - fay) - (fay - eay) * (fbx - fax)) ((ebx - eax) * (fby - fay) - (eby - eay) * (fbx - fax)) = u := ⟨_, rfl⟩
    obtain ⟨v, hv⟩ : ∃ v, openU ((fax - eax) * (eby - eay) - (fay - eay) * (ebx - eax)) ((ebx - eax) * (fby - fay) - (eby - eay) * (fbx - fax)) = v := ⟨_, rfl⟩
    have HU : Hid (openU ((fax - eax) * (fby - fay) - (fay - eay) * (fbx - fax)) ((ebx - eax) * (fby - fay) - (eby - eay) * (fbx - fax)) = u) := hu
    have HV : Hid (openU ((fax - eax) * (eby - eay) - (fay - eay) * (ebx - eax)) ((ebx - eax) * (fby - fay) - (eby - eay) * (fbx - fax)) = v) := hv
    have HX : Hid ((u && v) = crossV eax eay ebx eby fax fay fbx fby) := by
      have := HC.out
      rw [cr_s eax eay ebx eby] at hu
      rw [hu, hv] at this
      exact this
    clear hu hv hz
    have tok : True := trivial
    cases u
    · go_enter Try.func35, Try.ntmps35
      go_wp2_with (go_at_call 42; refine (openUnit_is _ _ _ HU.out _).mono ?_; rintro e w' ⟨rfl, rfl⟩)
      go_ret3
      exact ⟨ret_cross HX.out S1.out S2.out, b2 _ _ _⟩
    · go_enter Try.func35, Try.ntmps35
      go_wp2_with (first
        | (go_at_call 42; have _t := tok; refine (openUnit_is _ _ _ HU.out _).mono ?_; rintro e w' ⟨rfl, rfl⟩; clear tok)
        | (go_at_call 42; refine (openUnit_is _ _ _ HV.out _).mono ?_; rintro e w' ⟨rfl, rfl⟩))
      go_ret3
      exact ⟨ret_cross HX.out S1.out S2.out, b2 _ _ _⟩

/-- on the open segment: on the line, and between its ends -/
theorem open_on (px py ax ay bx by' : Int) : openB px py ax ay bx by' = (decide (oriZ ax ay bx by' px py = 0) && btwB ax ay bx by' px py) := by
  by_cases h : oriZ ax ay bx by' px py = 0
  · rw [btw_open ax ay bx by' px py h]; simp [h]
  · have h' : ¬ ((bx - ax) * (py - ay) - (by' - ay) * (px - ax) = 0) := h
    unfold openB
    simp [h, h']

def bit (b : Bool) : Int := if b then 1 else 0

theorem new_len {lo hi : Nat} {eax eay ebx eby fax fay fbx fby : Int} (hx : crossV eax eay ebx eby fax fay fbx fby = false) :
    ((newCuts lo hi eax eay ebx eby fax fay fbx fby).length : Int) = bit (openB eax eay fax fay fbx fby) + bit (openB ebx eby fax fay fbx fby) + bit (openB fax fay eax eay ebx eby) + bit (openB fbx fby eax eay ebx eby) := by
  unfold crossV at hx
  unfold newCuts
  rw [hx]
  simp only [Bool.false_eq_true, if_false, ← open_on]
  cases openB eax eay fax fay fbx fby <;> cases openB ebx eby fax fay fbx fby <;> cases openB fax fay eax eay ebx eby <;> cases openB fbx fby eax eay ebx eby <;> simp [bit]

theorem new_len2 {lo hi : Nat} {eax eay ebx eby fax fay fbx fby : Int} (hx : crossV eax eay ebx eby fax fay fbx fby = true) :
    ((newCuts lo hi eax eay ebx eby fax fay fbx fby).length : Int) = 2 := by
  unfold crossV at hx
  unfold newCuts
  rw [hx]
  rfl

set_option maxRecDepth 100000 in
set_option maxHeartbeats 4000000 in
theorem meetCount_is (lo hi : Nat) (eax eay ebx eby ek ei fax fay fbx fby fk fi : Int) (e0 e1 f0 f1 : Nat) (w : World)
    (r0 : -536870912 ≤ eax ∧ eax ≤ 536870912) (r1 : -536870912 ≤ eay ∧ eay ≤ 536870912) (r2 : -536870912 ≤ ebx ∧ ebx ≤ 536870912) (r3 : -536870912 ≤ eby ∧ eby ≤ 536870912) (r4 : -536870912 ≤ fax ∧ fax ≤ 536870912) (r5 : -536870912 ≤ fay ∧ fay ≤ 536870912) (r6 : -536870912 ≤ fbx ∧ fbx ≤ 536870912) (r7 : -536870912 ≤ fby ∧ fby ≤ 536870912) :
    Calls Try.prog 20 #[sgv eax eay ebx eby ek ei e0 e1, sgv fax fay fbx fby fk fi f0 f1] w fun e w' =>
      e = .returned (.int .i64 ((newCuts lo hi eax eay ebx eby fax fay fbx fby).length : Int)) ∧ Below w.heap.size w w' := by
  cases hx : crossV eax eay ebx eby fax fay fbx fby
  · have HL : Hid _ := new_len (lo := lo) (hi := hi) hx
    have HX : Hid (crossV eax eay ebx eby fax fay fbx fby = false) := hx
    obtain ⟨o1, h1⟩ : ∃ o, openB eax eay fax fay fbx fby = o := ⟨_, rfl⟩
    obtain ⟨o2, h2⟩ : ∃ o, openB ebx eby fax fay fbx fby = o := ⟨_, rfl⟩
    obtain ⟨o3, h3⟩ : ∃ o, openB fax fay eax eay ebx eby = o := ⟨_, rfl⟩
    obtain ⟨o4, h4⟩ : ∃ o, openB fbx fby eax eay ebx eby = o := ⟨_, rfl⟩
    have HN : Hid (((newCuts lo hi eax eay ebx eby fax fay fbx fby).length : Int) = bit o1 + bit o2 + bit o3 + bit o4) := by rw [← h1, ← h2, ← h3, ← h4]; exact HL.out
    have G1 : Hid (openB eax eay fax fay fbx fby = o1) := h1
    have G2 : Hid (openB ebx eby fax fay fbx fby = o2) := h2
    have G3 : Hid (openB fax fay eax eay ebx eby = o3) := h3
    have G4 : Hid (openB fbx fby eax eay ebx eby = o4) := h4
    clear hx HL h1 h2 h3 h4
    have t1 : True := trivial
    have t2 : True := trivial
    have t3 : True := trivial
    go_enter Try.func20, Try.ntmps20
    go_wp2_with (first
      | (go_at_call 35; refine (crossing_is eax eay ebx eby ek ei fax fay fbx fby fk fi e0 e1 f0 f1 _ r0 r1 r2 r3 r4 r5 r6 r7).mono ?_; rw [HX.out]; rintro e w1 ⟨rfl, hb1⟩; have hc1 := (bcell hb1).1; have hz1 := hb1.size)
      | (go_at_call 9; have _t := t1; refine (onOpen_is eax eay fax fay fbx fby _ G1.out _ r0 r1 r4 r5 r6 r7).mono ?_; rintro e w' ⟨rfl, rfl⟩; clear t1)
      | (go_at_call 9; have _t := t2; refine (onOpen_is ebx eby fax fay fbx fby _ G2.out _ r2 r3 r4 r5 r6 r7).mono ?_; rintro e w' ⟨rfl, rfl⟩; clear t2)
      | (go_at_call 9; have _t := t3; refine (onOpen_is fax fay eax eay ebx eby _ G3.out _ r4 r5 r0 r1 r2 r3).mono ?_; rintro e w' ⟨rfl, rfl⟩; clear t3)
      | (go_at_call 9; refine (onOpen_is fbx fby eax eay ebx eby _ G4.out _ r6 r7 r0 r1 r2 r3).mono ?_; rintro e w' ⟨rfl, rfl⟩))
    all_goals
      go_ret
      refine ⟨ret_int ?_, bthen (b2 _ _ _) hb1⟩
      go_light
      rw [HN.out]
      simp [bit, *]
  · have HL : Hid _ := new_len2 (lo := lo) (hi := hi) hx
    have HX : Hid (crossV eax eay ebx eby fax fay fbx fby = true) := hx
    clear hx
    go_enter Try.func20, Try.ntmps20
    go_wp2_with (go_at_call 35; refine (crossing_is eax eay ebx eby ek ei fax fay fbx fby fk fi e0 e1 f0 f1 _ r0 r1 r2 r3 r4 r5 r6 r7).mono ?_; rw [HX.out]; rintro e w1 ⟨rfl, hb1⟩)
    go_ret
    exact ⟨ret_int HL.out.symm, bthen (b2 _ _ _) hb1⟩

end Go.Proofs.Qxb6609068a.Small
