/-
  What meet goes by: orient, the cuts that it makes, rows of the call's own.
-/
import Derived.Test.Qxb6609068aRound
import Derived.Test.Qxb6609068aBetween
import Derived.Laws.Rows
namespace Go.Proofs.Qxb6609068a.Small
open Go.ChangeShapes Go.WideShapes Go.ChangeAt Go.RowKit
open Fl (eB roundBits)
set_option linter.unusedVariables false

/-- twice the signed area of the triangle abc -/
def oriZ (ax ay bx by' cx cy : Int) : Int := (bx - ax) * (cy - ay) - (by' - ay) * (cx - ax)

theorem orient_is (ax ay bx by' cx cy : Int) (w : World)
    (d0 : -1073741824 ≤ bx - ax ∧ bx - ax ≤ 1073741824) (d1 : -1073741824 ≤ cx - ax ∧ cx - ax ≤ 1073741824)
    (d2 : -1073741824 ≤ by' - ay ∧ by' - ay ≤ 1073741824) (d3 : -1073741824 ≤ cy - ay ∧ cy - ay ≤ 1073741824) :
    Calls Try.prog 40 #[pt ax ay, pt bx by', pt cx cy] w fun e w' => e = .returned (.int .i64 (oriZ ax ay bx by' cx cy)) ∧ Below w.heap.size w w' := by
  have m1 := Plain.prod_bd d0 d3
  have m2 := Plain.prod_bd d2 d1
  go_enter Try.func40, Try.ntmps40
  go_wp2
  go_ret
  exact ⟨rfl, b3 _ _ _ _⟩

/-- the four numbers of an edge, at its place in the row of edges -/
def EdgeAt (w : World) (be i : Nat) (ax ay bx by' : Int) : Prop :=
  w.cell? ⟨be, i * 8, none⟩ = some (.int .i64 ax) ∧ w.cell? ⟨be, i * 8 + 1, none⟩ = some (.int .i64 ay) ∧ w.cell? ⟨be, i * 8 + 2, none⟩ = some (.int .i64 bx) ∧ w.cell? ⟨be, i * 8 + 2 + 1, none⟩ = some (.int .i64 by')

theorem cell_on {w w' : World} {a : Addr} {v : Value} (hb : Below w.heap.size w w') (h : w.cell? a = some v) : w'.cell? a = some v := by
  rw [hb.cell (World.block_lt_of_cell? w _ h), h]

theorem EdgeAt.on {w w' : World} {be i : Nat} {ax ay bx by' : Int} (h : EdgeAt w be i ax ay bx by') (hb : Below w.heap.size w w') : EdgeAt w' be i ax ay bx by' :=
  ⟨cell_on hb h.1, cell_on hb h.2.1, cell_on hb h.2.2.1, cell_on hb h.2.2.2⟩

theorem EdgeAt.under {w w' : World} {be i base : Nat} {ax ay bx by' : Int} (h : EdgeAt w be i ax ay bx by') (hb : Below base w w') (hlt : be < base) : EdgeAt w' be i ax ay bx by' := by
  obtain ⟨h0, h1, h2, h3⟩ := h
  exact ⟨by rw [hb.cell hlt, h0], by rw [hb.cell hlt, h1], by rw [hb.cell hlt, h2], by rw [hb.cell hlt, h3]⟩

/-- the two straight lines cross inside both edges -/
def crossB (d1 d2 d3 d4 : Int) : Bool := (decide (0 < d1 ∧ d2 < 0) || decide (d1 < 0 ∧ 0 < d2)) && (decide (0 < d3 ∧ d4 < 0) || decide (d3 < 0 ∧ 0 < d4))

/-- how far along: int64(math.Round(float64(d1) / float64(D) * float64(dx))) -/
def offZ (d1 D dx : Int) : Int :=
  ((floatBits .quo .f64 (floatOfInt .f64 d1) (floatOfInt .f64 D)).bind fun s => (floatBits .mul .f64 s (floatOfInt .f64 dx)).bind fun p => floatToIntVal .f64 (roundBits p) .i64).getD 0

/-- the cuts that meet makes -/
def newCuts (lo hi : Nat) (eax eay ebx eby fax fay fbx fby : Int) : List (Int × Int × Int) :=
  if crossB (oriZ fax fay fbx fby eax eay) (oriZ fax fay fbx fby ebx eby) (oriZ eax eay ebx eby fax fay) (oriZ eax eay ebx eby fbx fby) then
    [((lo : Int), eax + offZ (oriZ fax fay fbx fby eax eay) (oriZ fax fay fbx fby eax eay - oriZ fax fay fbx fby ebx eby) (ebx - eax), eay + offZ (oriZ fax fay fbx fby eax eay) (oriZ fax fay fbx fby eax eay - oriZ fax fay fbx fby ebx eby) (eby - eay)),
     ((hi : Int), eax + offZ (oriZ fax fay fbx fby eax eay) (oriZ fax fay fbx fby eax eay - oriZ fax fay fbx fby ebx eby) (ebx - eax), eay + offZ (oriZ fax fay fbx fby eax eay) (oriZ fax fay fbx fby eax eay - oriZ fax fay fbx fby ebx eby) (eby - eay))]
  else
    (if decide (oriZ fax fay fbx fby eax eay = 0) && btwB fax fay fbx fby eax eay then [((hi : Int), eax, eay)] else []) ++
    ((if decide (oriZ fax fay fbx fby ebx eby = 0) && btwB fax fay fbx fby ebx eby then [((hi : Int), ebx, eby)] else []) ++
    ((if decide (oriZ eax eay ebx eby fax fay = 0) && btwB eax eay ebx eby fax fay then [((lo : Int), fax, fay)] else []) ++
    (if decide (oriZ eax eay ebx eby fbx fby = 0) && btwB eax eay ebx eby fbx fby then [((lo : Int), fbx, fby)] else [])))

/-- cuts, as cells -/
def cutCells (l : List (Int × Int × Int)) : List Value := l.flatMap fun c => [.int .i64 c.1, .int .i64 c.2.1, .int .i64 c.2.2]

/-- what meet leaves: the row of cuts, longer by the new ones -/
def MeetPost (lo hi : Nat) (eax eay ebx eby fax fay fbx fby : Int) (base n : Nat) (xs : List Value) (w : World) (e : Ending) (w' : World) : Prop :=
  ∃ v', e = .returned v' ∧ w'.ownsRow base 66 3 v' (n + (newCuts lo hi eax eay ebx eby fax fay fbx fby).length) (xs ++ cutCells (newCuts lo hi eax eay ebx eby fax fay fbx fby)) ∧ Below base w w'

theorem cross_yes {d1 d2 d3 d4 : Int} (h : ((0 < d1 ∧ d2 < 0) ∨ (d1 < 0 ∧ 0 < d2)) ∧ ((0 < d3 ∧ d4 < 0) ∨ (d3 < 0 ∧ 0 < d4))) : true = crossB d1 d2 d3 d4 := by
  simp only [crossB, Bool.true_eq, Bool.and_eq_true, Bool.or_eq_true, decide_eq_true_eq]
  exact h
theorem cross_no {d1 d2 d3 d4 : Int} (h : ¬ (((0 < d1 ∧ d2 < 0) ∨ (d1 < 0 ∧ 0 < d2)) ∧ ((0 < d3 ∧ d4 < 0) ∨ (d3 < 0 ∧ 0 < d4)))) : false = crossB d1 d2 d3 d4 := by
  cases hc : crossB d1 d2 d3 d4
  · rfl
  · exact absurd (by simpa only [crossB, Bool.and_eq_true, Bool.or_eq_true, decide_eq_true_eq] using hc) h
theorem cross_open {d1 d2 d3 d4 : Int} (h : crossB d1 d2 d3 d4 = true) : (0 < d1 ∧ d2 < 0) ∨ (d1 < 0 ∧ 0 < d2) := by
  simp only [crossB, Bool.and_eq_true, Bool.or_eq_true, decide_eq_true_eq] at h
  exact h.1

theorem cross_open2 {d1 d2 d3 d4 : Int} (h : crossB d1 d2 d3 d4 = true) : (0 < d3 ∧ d4 < 0) ∨ (d3 < 0 ∧ 0 < d4) := by
  simp only [crossB, Bool.and_eq_true, Bool.or_eq_true, decide_eq_true_eq] at h
  exact h.2
theorem cross_not {d1 d2 d3 d4 : Int} (h : crossB d1 d2 d3 d4 = false) : ¬ (((0 < d1 ∧ d2 < 0) ∨ (d1 < 0 ∧ 0 < d2)) ∧ ((0 < d3 ∧ d4 < 0) ∨ (d3 < 0 ∧ 0 < d4))) := by
  intro hc
  rw [← cross_yes hc] at h
  cases h

theorem ori_bd (ax ay bx by' cx cy : Int)
    (d0 : -1073741824 ≤ bx - ax ∧ bx - ax ≤ 1073741824) (d1 : -1073741824 ≤ cx - ax ∧ cx - ax ≤ 1073741824)
    (d2 : -1073741824 ≤ by' - ay ∧ by' - ay ≤ 1073741824) (d3 : -1073741824 ≤ cy - ay ∧ cy - ay ≤ 1073741824) : -2305843009213693952 ≤ oriZ ax ay bx by' cx cy ∧ oriZ ax ay bx by' cx cy ≤ 2305843009213693952 := by
  have m1 := Plain.prod_bd (x := bx - ax) (y := cy - ay) (by omega) (by omega)
  have m2 := Plain.prod_bd (x := by' - ay) (y := cx - ax) (by omega) (by omega)
  unfold oriZ
  omega

theorem off_eq {d1 D dx : Int} {s p : Nat} {n : Int} (h1 : floatBits .quo .f64 (floatOfInt .f64 d1) (floatOfInt .f64 D) = some s) (h2 : floatBits .mul .f64 s (floatOfInt .f64 dx) = some p) (h3 : floatToIntVal .f64 (roundBits p) .i64 = some n) : offZ d1 D dx = n := by
  unfold offZ; rw [h1]; simp only [Option.bind_some]; rw [h2]; simp only [Option.bind_some]; rw [h3]; rfl

theorem wrap_in {n : Int} (h : -9223372036854775808 ≤ n ∧ n ≤ 9223372036854775807) : IntKind.i64.wrap n = n := by
  rw [IntKind.wrap_i64]; omega

theorem ret_b {a b : Bool} (h : a = b) : Value.bool a = .bool b := by rw [h]

/-! ### rows of the call's own -/
theorem info66 : (Try.prog.info? 66).map (fun i => (i.zero, i.size, i.bytes)) = some (some (.agg #[.int .i64 0, .int .i64 0, .int .i64 0]), 3, 24) := by kernel_rfl

theorem own_on {w w' : World} {base : Nat} {e : TypeId} {size : Nat} {v : Value} {n : Nat} {xs : List Value} (h : w.ownsRow base e size v n xs) (hb : Below w.heap.size w w') : w'.ownsRow base e size v n xs := by
  obtain ⟨h1, h2⟩ := h
  refine ⟨h1, ?_⟩
  rcases h2 with h2 | ⟨g, cap, cur, hv, hg, hh, r⟩
  · exact .inl h2
  · have hlt : g < w.heap.size := by
      rcases Nat.lt_or_ge g w.heap.size with h' | h'
      · exact h'
      · rw [Array.getElem?_eq_none h'] at hh; cases hh
    exact .inr ⟨g, cap, cur, hv, hg, by rw [hb.block g hlt]; exact hh, r⟩

theorem own_ge {w : World} {base : Nat} {e : TypeId} {size : Nat} {v : Value} {n : Nat} {xs : List Value} (h : w.ownsRow base e size v n xs) : ∀ k, v.ownBlock = some k → base ≤ k := fun k hk => (h.lt k hk).1

theorem new_two (w : World) (a b : Value) (t : TypeId) : ((w.alloc (.cells #[a, b] t)).drew).cell? ⟨w.heap.size, 0, none⟩ = some a ∧ ((w.alloc (.cells #[a, b] t)).drew).cell? ⟨w.heap.size, 1, none⟩ = some b :=
  ⟨cell_of_row (w.alloc (.cells #[a, b] t)).drew _ 0 #[a, b] t (0, 0) (heap_alloc_new w _), cell_of_row (w.alloc (.cells #[a, b] t)).drew _ 1 #[a, b] t (0, 0) (heap_alloc_new w _)⟩

/-- the cells of a block that was laid last -/
theorem news_new (w : World) (cs : List Value) (t : TypeId) : ∀ j u, cs[j]? = some u → (w.alloc (.cells cs.toArray t)).cell? ((⟨w.heap.size, 0, none⟩ : Addr).add j) = some u := by
  intro j u hu
  have hadd : (⟨w.heap.size, 0, none⟩ : Addr).add j = ⟨w.heap.size, j, none⟩ := by unfold Addr.add; split <;> simp_all
  rw [hadd, cell_of_row _ _ j cs.toArray t (0, 0) (heap_alloc_new w _)]
  simpa using hu

theorem block_on {w w' : World} {g : Nat} {o : Obj} (h : w.heap[g]? = some o) (hb : Below w.heap.size w w') : w'.heap[g]? = some o := by
  have hlt : g < w.heap.size := by
    rcases Nat.lt_or_ge g w.heap.size with h' | h'
    · exact h'
    · rw [Array.getElem?_eq_none h'] at h; cases h
  rw [hb.block g hlt, h]

/-- a block of another type than the row's is not written by an append to the row -/
theorem block_past {w w' : World} {base g : Nat} {v : Value} {n : Nat} {xs : List Value} {A cs : Array Value} {t' : TypeId} (ho : w.ownsRow base 66 3 v n xs) (hg : w.heap[g]? = some (.cells A 79 (0, 0))) (hgrow : (w.alloc (.cells cs t')).grownBy w' v.ownBlock) : w'.heap[g]? = some (.cells A 79 (0, 0)) := by
  have hlt : g < w.heap.size := by
    rcases Nat.lt_or_ge g w.heap.size with h' | h'
    · exact h'
    · rw [Array.getElem?_eq_none h'] at hg; cases hg
  have hne : some g ≠ v.ownBlock := by
    intro e
    rcases ho.2 with ⟨rfl, _⟩ | ⟨g', cap, cur, rfl, _, hh, _⟩
    · simp [Value.ownBlock] at e
    · simp only [Value.ownBlock, Option.some.injEq] at e
      subst e
      rw [hg] at hh
      simp at hh
  rw [hgrow.block g (by simp; omega) hne, Below.heap_alloc _ _ _ hlt, hg]

theorem cutCells_append (a b : List (Int × Int × Int)) : cutCells (a ++ b) = cutCells a ++ cutCells b := by simp [cutCells]

/-! ### the four ends that may lie on the other edge -/
/-- the cut that end k makes, if any -/
def one (lo hi : Nat) (eax eay ebx eby fax fay fbx fby d1 d2 d3 d4 : Int) (k : Nat) : List (Int × Int × Int) :=
  match k with
  | 0 => if decide (d1 = 0) && btwB fax fay fbx fby eax eay then [((hi : Int), eax, eay)] else []
  | 1 => if decide (d2 = 0) && btwB fax fay fbx fby ebx eby then [((hi : Int), ebx, eby)] else []
  | 2 => if decide (d3 = 0) && btwB eax eay ebx eby fax fay then [((lo : Int), fax, fay)] else []
  | _ => if decide (d4 = 0) && btwB eax eay ebx eby fbx fby then [((lo : Int), fbx, fby)] else []

def candK (lo hi : Nat) (eax eay ebx eby fax fay fbx fby d1 d2 d3 d4 : Int) : Nat → List (Int × Int × Int)
  | 0 => []
  | k + 1 => candK lo hi eax eay ebx eby fax fay fbx fby d1 d2 d3 d4 k ++ one lo hi eax eay ebx eby fax fay fbx fby d1 d2 d3 d4 k

theorem one_le (lo hi : Nat) (eax eay ebx eby fax fay fbx fby d1 d2 d3 d4 : Int) (k : Nat) : (one lo hi eax eay ebx eby fax fay fbx fby d1 d2 d3 d4 k).length ≤ 1 := by
  unfold one; split <;> split <;> simp

theorem candK_le (lo hi : Nat) (eax eay ebx eby fax fay fbx fby d1 d2 d3 d4 : Int) (k : Nat) : (candK lo hi eax eay ebx eby fax fay fbx fby d1 d2 d3 d4 k).length ≤ k := by
  induction k with
  | zero => simp [candK]
  | succ k ih =>
    have := one_le lo hi eax eay ebx eby fax fay fbx fby d1 d2 d3 d4 k
    simp only [candK, List.length_append]
    omega

/-- the row of candidates: the orientation, the edge, its index, the end -/
def candArr (be lo hi : Nat) (eax eay ebx eby fax fay fbx fby d1 d2 d3 d4 : Int) : Array Value :=
  #[.int .i64 d1, .pointer (some ⟨be, hi * 8, none⟩), .int .i64 hi, .int .i64 eax, .int .i64 eay,
    .int .i64 d2, .pointer (some ⟨be, hi * 8, none⟩), .int .i64 hi, .int .i64 ebx, .int .i64 eby,
    .int .i64 d3, .pointer (some ⟨be, lo * 8, none⟩), .int .i64 lo, .int .i64 fax, .int .i64 fay,
    .int .i64 d4, .pointer (some ⟨be, lo * 8, none⟩), .int .i64 lo, .int .i64 fbx, .int .i64 fby]

theorem cand_at {wr : World} {g be lo hi : Nat} {eax eay ebx eby fax fay fbx fby d1 d2 d3 d4 tx ty : Int} (hg : wr.heap[g]? = some (.cells (candArr be lo hi eax eay ebx eby fax fay fbx fby d1 d2 d3 d4) 79 (0, 0))) (k : Nat) (hk : k < 4)
    (he : EdgeAt wr be lo eax eay ebx eby) (hf : EdgeAt wr be hi fax fay fbx fby)
    (r0 : -536870912 ≤ eax - tx ∧ eax - tx ≤ 536870912) (r1 : -536870912 ≤ eay - ty ∧ eay - ty ≤ 536870912) (r2 : -536870912 ≤ ebx - tx ∧ ebx - tx ≤ 536870912) (r3 : -536870912 ≤ eby - ty ∧ eby - ty ≤ 536870912)
    (r4 : -536870912 ≤ fax - tx ∧ fax - tx ≤ 536870912) (r5 : -536870912 ≤ fay - ty ∧ fay - ty ≤ 536870912) (r6 : -536870912 ≤ fbx - tx ∧ fbx - tx ≤ 536870912) (r7 : -536870912 ≤ fby - ty ∧ fby - ty ≤ 536870912) :
    ∃ (d : Int) (o : Nat) (ax ay bx by' px py : Int), wr.cell? ⟨g, k * 5, none⟩ = some (.int .i64 d) ∧ wr.cell? ⟨g, k * 5 + 1, none⟩ = some (.pointer (some ⟨be, o * 8, none⟩)) ∧ wr.cell? ⟨g, k * 5 + 2, none⟩ = some (.int .i64 o) ∧
      wr.cell? ⟨g, k * 5 + 3, none⟩ = some (.int .i64 px) ∧ wr.cell? ⟨g, k * 5 + 4, none⟩ = some (.int .i64 py) ∧ EdgeAt wr be o ax ay bx by' ∧ Near ax ay bx by' px py ∧
      one lo hi eax eay ebx eby fax fay fbx fby d1 d2 d3 d4 k = (if decide (d = 0) && btwB ax ay bx by' px py then [((o : Int), px, py)] else []) := by
  have hc := fun j => cell_of_row wr g j _ _ _ hg
  rcases (by omega : k = 0 ∨ k = 1 ∨ k = 2 ∨ k = 3) with rfl | rfl | rfl | rfl
  · exact ⟨d1, hi, fax, fay, fbx, fby, eax, eay, hc 0, hc 1, hc 2, hc 3, hc 4, hf, by unfold Near; omega, rfl⟩
  · exact ⟨d2, hi, fax, fay, fbx, fby, ebx, eby, hc 5, hc 6, hc 7, hc 8, hc 9, hf, by unfold Near; omega, rfl⟩
  · exact ⟨d3, lo, eax, eay, ebx, eby, fax, fay, hc 10, hc 11, hc 12, hc 13, hc 14, he, by unfold Near; omega, rfl⟩
  · exact ⟨d4, lo, eax, eay, ebx, eby, fbx, fby, hc 15, hc 16, hc 17, hc 18, hc 19, he, by unfold Near; omega, rfl⟩

theorem new_of_cands {lo hi : Nat} {eax eay ebx eby fax fay fbx fby : Int} (hx : crossB (oriZ fax fay fbx fby eax eay) (oriZ fax fay fbx fby ebx eby) (oriZ eax eay ebx eby fax fay) (oriZ eax eay ebx eby fbx fby) = false) :
    newCuts lo hi eax eay ebx eby fax fay fbx fby = candK lo hi eax eay ebx eby fax fay fbx fby (oriZ fax fay fbx fby eax eay) (oriZ fax fay fbx fby ebx eby) (oriZ eax eay ebx eby fax fay) (oriZ eax eay ebx eby fbx fby) 4 := by
  unfold newCuts
  rw [hx]
  simp only [Bool.false_eq_true, if_false, candK, one, List.nil_append, List.append_assoc]

end Go.Proofs.Qxb6609068a.Small
