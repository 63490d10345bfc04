/-
  CONTRACTS of the small functions of the seat: inRange, inBox, onOpenSegment, ZZnewPoint, dot, between, ZZbetween.
-/
import Derived.Test.Qxb6609068aRows
import Derived.Test.Qxb6609068aPlain
import Derived.WalkKit
import Derived.ProofKit
import Derived.ShutString
import Derived.Deep.Light
namespace Go.Proofs.Qxb6609068a.Small
open Go.ChangeShapes Go.WideShapes Go.ChangeAt Go.RowKit
open Go.ChangeMaps (open_string shut_string)

theorem ret_bool {a b : Bool} (h : a = b) : Ending.returned (.bool a) = .returned (.bool b) := by rw [h]

def inR (v : Int) : Bool := decide (-536870912 ≤ v ∧ v ≤ 536870912)

theorem inR_true {v : Int} (h : inR v = true) : -536870912 ≤ v ∧ v ≤ 536870912 := of_decide_eq_true h
theorem inR_false {v : Int} (h : inR v = false) : ¬ (-536870912 ≤ v ∧ v ≤ 536870912) := of_decide_eq_false h

set_option maxHeartbeats 400000 in
theorem inRange_is (v : Int) (b : Bool) (h : inR v = b) (w : World) :
    Calls Try.prog 8 #[.int .i64 v] w fun e w' => e = .returned (.bool b) ∧ w' = w := by
  cases b
  · have h' := inR_false h
    clear h
    by_cases h1 : -536870912 ≤ v
    · have h2 : ¬ v ≤ 536870912 := by omega
      go_enter Try.func8, Try.ntmps8
      go_wp2
      go_ret
      exact ⟨rfl, rfl⟩
    · go_enter Try.func8, Try.ntmps8
      go_wp2
      go_ret
      exact ⟨rfl, rfl⟩
  · obtain ⟨h1, h2⟩ := inR_true h
    clear h
    go_enter Try.func8, Try.ntmps8
    go_wp2
    go_ret
    exact ⟨rfl, rfl⟩


def boxB (px py ax ay bx by' : Int) : Bool := decide (((ax ≤ px ∧ px ≤ bx) ∨ (bx ≤ px ∧ px ≤ ax)) ∧ ((ay ≤ py ∧ py ≤ by') ∨ (by' ≤ py ∧ py ≤ ay)))

set_option maxHeartbeats 400000 in
theorem inBox_is (px py ax ay bx by' : Int) (b : Bool) (hb : boxB px py ax ay bx by' = b) (w : World) :
    Calls Try.prog 29 #[.int .i64 px, .int .i64 py, .int .i64 ax, .int .i64 ay, .int .i64 bx, .int .i64 by'] w fun e w' => e = .returned (.bool b) ∧ w' = w := by
  go_enter Try.func29, Try.ntmps29
  go_wp2
  all_goals
    go_ret
    refine ⟨ret_bool ?_, rfl⟩
    rw [← hb]
    unfold boxB
    first
    | (apply decide_eq_decide.mpr; omega)
    | (symm; apply decide_eq_false; omega)

/-- on the line, in the box, at neither end -/
def openB (px py ax ay bx by' : Int) : Bool := decide ((bx - ax) * (py - ay) - (by' - ay) * (px - ax) = 0) && (boxB px py ax ay bx by' && (!decide (px = ax ∧ py = ay) && !decide (px = bx ∧ py = by')))

set_option maxHeartbeats 400000 in
theorem onOpen_is (px py ax ay bx by' : Int) (b : Bool) (hb : openB px py ax ay bx by' = b) (w : World)
    (r0 : -536870912 ≤ px ∧ px ≤ 536870912) (r1 : -536870912 ≤ py ∧ py ≤ 536870912) (r2 : -536870912 ≤ ax ∧ ax ≤ 536870912) (r3 : -536870912 ≤ ay ∧ ay ≤ 536870912) (r4 : -536870912 ≤ bx ∧ bx ≤ 536870912) (r5 : -536870912 ≤ by' ∧ by' ≤ 536870912) :
    Calls Try.prog 9 #[.int .i64 px, .int .i64 py, .int .i64 ax, .int .i64 ay, .int .i64 bx, .int .i64 by'] w fun e w' => e = .returned (.bool b) ∧ w' = w := by
  have m1 := Plain.prod_bd (x := bx - ax) (y := py - ay) (by omega) (by omega)
  have m2 := Plain.prod_bd (x := by' - ay) (y := px - ax) (by omega) (by omega)
  have HB : Hid (openB px py ax ay bx by' = b) := hb
  clear hb
  cases hbox : boxB px py ax ay bx by'
  all_goals
    go_enter Try.func9, Try.ntmps9
    go_wp2_with (go_at_call 29; refine (inBox_is _ _ _ _ _ _ _ hbox _).mono ?_; rintro e w' ⟨rfl, rfl⟩)
  all_goals
    go_ret
    refine ⟨ret_bool ?_, rfl⟩
    go_light
    rw [← HB.out]
    unfold openB
    first | (simp_all; done) | (simp_all; rfl)

/-! ### points -/
theorem b3 (w : World) (o1 o2 o3 : Obj) : Below w.heap.size w (((w.alloc o1).alloc o2).alloc o3) :=
  (((Below.refl _ _).alloc (Nat.le_refl _) _).alloc (by simp) _).alloc (by simp; omega) _

theorem bthen {a b c : World} (h : Below a.heap.size a b) (k : Below b.heap.size b c) : Below a.heap.size a c := h.trans (k.mono h.size)

theorem b6 (w : World) (o1 o2 o3 o4 o5 o6 : Obj) : Below w.heap.size w ((((((w.alloc o1).alloc o2).alloc o3).alloc o4).alloc o5).alloc o6) := bthen (b3 w o1 o2 o3) (b3 _ o4 o5 o6)

theorem b8 (w : World) (o1 o2 o3 o4 o5 o6 o7 o8 : Obj) : Below w.heap.size w ((((((((w.alloc o1).alloc o2).alloc o3).alloc o4).alloc o5).alloc o6).alloc o7).alloc o8) :=
  bthen (b6 w o1 o2 o3 o4 o5 o6) (((Below.refl _ _).alloc (Nat.le_refl _) _).alloc (by simp) _)

theorem bcell {W w1 : World} (hb : Below W.heap.size W w1) : (∀ b o, b < W.heap.size → w1.cell? ⟨b, o, none⟩ = W.cell? ⟨b, o, none⟩) ∧ (∀ b o, b < W.heap.size → w1.frozen? ⟨b, o, none⟩ = W.frozen? ⟨b, o, none⟩) :=
  ⟨fun b o h => hb.cell (p := ⟨b, o, none⟩) h, fun b o h => hb.frozen (p := ⟨b, o, none⟩) h⟩

abbrev pt (x y : Int) : Value := .agg #[.int .i64 x, .int .i64 y]

theorem newPoint_is (x y : Int) (w : World) :
    Calls Try.prog 10 #[.int .i64 x, .int .i64 y] w fun e w' => e = .returned (pt x y) ∧ w' = w.alloc (.cells #[.int .i64 x, .int .i64 y] 25) := by
  go_enter Try.func10, Try.ntmps10
  go_wp2
  exact bodyPost_ret (v := pt x y) (by simp [results, Try.results10, go_sem]) rfl ⟨rfl, rfl⟩

/-- the dot product of the vectors from a to b and from a to c -/
def dotZ (ax ay bx by' cx cy : Int) : Int := (bx - ax) * (cx - ax) + (by' - ay) * (cy - ay)

/-- a coordinate of a point that is moved -/
def wide (v : Int) : Prop := -1073741824 ≤ v ∧ v ≤ 1073741824

theorem dot_is (ax ay bx by' cx cy : Int) (w : World)
    (d0 : -1073741824 ≤ bx - ax ∧ bx - ax ≤ 1073741824) (d1 : -1073741824 ≤ cx - ax ∧ cx - ax ≤ 1073741824)
    (d2 : -1073741824 ≤ by' - ay ∧ by' - ay ≤ 1073741824) (d3 : -1073741824 ≤ cy - ay ∧ cy - ay ≤ 1073741824) :
    Calls Try.prog 39 #[pt ax ay, pt bx by', pt cx cy] w fun e w' => e = .returned (.int .i64 (dotZ ax ay bx by' cx cy)) ∧ Below w.heap.size w w' := by
  have m1 := Plain.prod_bd d0 d1
  have m2 := Plain.prod_bd d2 d3
  go_enter Try.func39, Try.ntmps39
  go_wp2
  go_ret
  exact ⟨rfl, b3 _ _ _ _⟩

def btwB (ax ay bx by' px py : Int) : Bool := decide (0 < dotZ ax ay bx by' px py) && decide (0 < dotZ bx by' ax ay px py)

/-- three points whose differences fit -/
def Near (ax ay bx by' px py : Int) : Prop :=
  ((-1073741824 ≤ bx - ax ∧ bx - ax ≤ 1073741824) ∧ (-1073741824 ≤ px - ax ∧ px - ax ≤ 1073741824) ∧ (-1073741824 ≤ px - bx ∧ px - bx ≤ 1073741824)) ∧
  (-1073741824 ≤ by' - ay ∧ by' - ay ≤ 1073741824) ∧ (-1073741824 ≤ py - ay ∧ py - ay ≤ 1073741824) ∧ (-1073741824 ≤ py - by' ∧ py - by' ≤ 1073741824)

theorem between_is (ax ay bx by' px py : Int) (b : Bool) (hb : btwB ax ay bx by' px py = b) (w : World) (hn : Near ax ay bx by' px py) :
    Calls Try.prog 30 #[pt ax ay, pt bx by', pt px py] w fun e w' => e = .returned (.bool b) ∧ Below w.heap.size w w' := by
  obtain ⟨⟨x0, x1, x2⟩, y0, y1, y2⟩ := hn
  unfold btwB at hb
  have HB : Hid ((decide (0 < dotZ ax ay bx by' px py) && decide (0 < dotZ bx by' ax ay px py)) = b) := hb
  clear hb
  by_cases h1 : 0 < dotZ ax ay bx by' px py
  · have tok : True := trivial
    go_enter Try.func30, Try.ntmps30
    go_wp2_with (first
      | (go_at_call 39; have _t := tok; refine (dot_is ax ay bx by' px py _ x0 x1 y0 y1).mono ?_; rintro e w1 ⟨rfl, hb1⟩; clear tok; have hc1 := (bcell hb1).1; have hz1 := hb1.size)
      | (go_at_call 39; refine (dot_is bx by' ax ay px py _ (by omega) (by omega) (by omega) (by omega)).mono ?_; rintro e w2 ⟨rfl, hb2⟩))
    go_ret
    refine ⟨ret_bool ?_, ?_⟩
    · rw [← HB.out]; simp [h1]
    · exact (b3 _ _ _ _).trans ((hb1.mono (by simp; omega)).trans (hb2.mono (by simp at hz1; omega)))
  · have h1' : decide (0 < dotZ ax ay bx by' px py) = false := by simpa using h1
    go_enter Try.func30, Try.ntmps30
    go_wp2_with (go_at_call 39; refine (dot_is ax ay bx by' px py _ x0 x1 y0 y1).mono ?_; rintro e w1 ⟨rfl, hb1⟩)
    go_ret
    refine ⟨ret_bool ?_, ?_⟩
    · rw [← HB.out, h1']; rfl
    · exact (b3 _ _ _ _).trans (hb1.mono (by simp; omega))

theorem zzbetween_is (ax ay bx by' px py : Int) (b : Bool) (hb : btwB ax ay bx by' px py = b) (w : World) (hn : Near ax ay bx by' px py) :
    Calls Try.prog 11 #[pt ax ay, pt bx by', pt px py] w fun e w' => e = .returned (.bool b) ∧ Below w.heap.size w w' := by
  go_enter Try.func11, Try.ntmps11
  go_wp2_with (go_at_call 30; refine (between_is ax ay bx by' px py b hb _ hn).mono ?_; rintro e w1 ⟨rfl, hb1⟩)
  go_ret
  exact ⟨rfl, (b3 _ _ _ _).trans (hb1.mono (by simp; omega))⟩

end Go.Proofs.Qxb6609068a.Small
