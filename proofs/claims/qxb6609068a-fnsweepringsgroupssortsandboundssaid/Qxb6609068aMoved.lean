/-
  CONTRACTS of cutsOf and buildCuts in one form, zzBytes; and the plain law of a moved picture.
-/
import Derived.Test.Qxb6609068aCount
namespace Go.Proofs.Qxb6609068a.Small
open Go.ChangeShapes Go.WideShapes Go.ChangeAt Go.RowKit
open Fl (eB roundBits)
set_option linter.unusedVariables false

/-- cutsOf, of whatever row of cuts the call owns -/
theorem cutsOf_is (base : Nat) (v : Value) (n : Nat) (l : List (Int × Int × Int)) (w : World) (hown : w.ownsRow base 66 3 v n (cutCells l)) (hl : l.length = n) (hn : n ≤ 65540) :
    Calls Try.prog 16 #[v] w fun e w' => e = .returned (.slice (some ⟨w.heap.size, 0, none⟩) n n) ∧ w'.ownsRow w.heap.size 43 3 (.slice (some ⟨w.heap.size, 0, none⟩) n n) n (cutCells l) ∧ Below w.heap.size w w' := by
  rw [cutCells_rowOf l] at hown ⊢
  rw [hl] at hown ⊢
  rcases hown.2 with ⟨rfl, rfl⟩ | ⟨g, cap, cur, rfl, _⟩
  · exact cutsOf_empty none 0 _ w
  · refine cutsOf_row g n cap (fun i => l.getD i (0, 0, 0)) w hn fun i hi => ?_
    refine ⟨?_, ?_, ?_⟩
    · rw [own_rowOf hown rfl (i * 3) (by omega), cutT0]
    · rw [own_rowOf hown rfl (i * 3 + 1) (by omega), cutT1]
    · rw [own_rowOf hown rfl (i * 3 + 2) (by omega), cutT2]

theorem buildCuts_empty (a : Option Addr) (c : Nat) (q : Nat → Int × Int × Int) (w : World) :
    Calls Try.prog 15 #[.slice a 0 c] w fun e w' => e = .returned (.slice (some ⟨w.heap.size, 0, none⟩) 0 0) ∧
      w'.ownsRow w.heap.size 66 3 (.slice (some ⟨w.heap.size, 0, none⟩) 0 0) 0 (rowOf (0 * 3) (cutT q)) ∧ Below w.heap.size w w' := by
  obtain ⟨i0, hi0, hz0, hz1, hz2⟩ := info_parts info66
  go_enter Try.func15, Try.ntmps15
  go_wp2_with (at_make; refine wpList_make_full _ rfl _ _ 38 rfl w.heap.size 66 i0 _ 3 Try.underlying38 hi0 hz0 hz1 _ _ _ _ 0 rfl rfl rfl rfl (by omega) (by unfold maxLen; omega) (Nat.le_refl _) ?_; intro w1 hown1 hgrow1; have HB1 : Hid (Below w.heap.size w w1) := (Below.refl w.heap.size w).grown hgrow1 (Nat.le_refl _) (by intro k hk; cases hk); obtain ⟨Z, HO⟩ := made_hid hown1; clear hown1 hgrow1)
  go_loopw [4] (fun i wr => i = .int .i64 0 ∧ Hid (wr.ownsRow w.heap.size 66 3 (.slice (some ⟨w.heap.size, 0, none⟩) 0 0) 0 (rowOf (0 * 3) Z)) ∧ Hid (Below w.heap.size w wr)) (fun i _ => 0)
  case atStart => exact ⟨rfl, HO, HB1⟩
  case round =>
    obtain ⟨rfl, HOr, HBr⟩ := hrel
    go_wp2
    go_ret
    exact ⟨rfl, HOr.out, HBr.out⟩

/-- the cuts that came in: their row, if there is one -/
def CutRow (w : World) (a : Option Addr) (n : Nat) (q : Nat → Int × Int × Int) : Prop :=
  0 < n → ∃ b o, a = some ⟨b, o, none⟩ ∧ ∀ i, i < n → w.cell? ⟨b, o + i * 3, none⟩ = some (.int .i64 (q i).1) ∧ w.cell? ⟨b, o + i * 3 + 1, none⟩ = some (.int .i64 (q i).2.1) ∧ w.cell? ⟨b, o + i * 3 + 2, none⟩ = some (.int .i64 (q i).2.2)

theorem CutRow.on {w w' : World} {a : Option Addr} {n : Nat} {q : Nat → Int × Int × Int} (h : CutRow w a n q) (hb : Below w.heap.size w w') : CutRow w' a n q := by
  intro hn
  obtain ⟨b, o, e, hc⟩ := h hn
  exact ⟨b, o, e, fun i hi => ⟨cell_on hb (hc i hi).1, cell_on hb (hc i hi).2.1, cell_on hb (hc i hi).2.2⟩⟩

def cutList (n : Nat) (q : Nat → Int × Int × Int) : List (Int × Int × Int) := (List.range n).map q
theorem cutList_len (n : Nat) (q : Nat → Int × Int × Int) : (cutList n q).length = n := by simp [cutList]
theorem cutList_row (n : Nat) (q : Nat → Int × Int × Int) : rowOf (n * 3) (cutT q) = cutCells (cutList n q) := by
  rw [cutCells_rowOf, cutList_len]
  apply rowOf_congr
  intro j hj
  have e : (cutList n q).getD (j / 3) (0, 0, 0) = q (j / 3) := by
    have : j / 3 < n := by omega
    simp [cutList, List.getD_eq_getElem?_getD, List.getElem?_range this]
  unfold cutT
  simp only [e]

theorem buildCuts_is (a : Option Addr) (n c : Nat) (q : Nat → Int × Int × Int) (w : World) (hn : n ≤ 16384) (h : CutRow w a n q) :
    Calls Try.prog 15 #[.slice a n c] w fun e w' => e = .returned (.slice (some ⟨w.heap.size, 0, none⟩) n n) ∧
      w'.ownsRow w.heap.size 66 3 (.slice (some ⟨w.heap.size, 0, none⟩) n n) n (cutCells (cutList n q)) ∧ Below w.heap.size w w' := by
  rw [← cutList_row]
  by_cases h0 : n = 0
  · subst h0; exact buildCuts_empty a c q w
  · obtain ⟨b, o, rfl, hc⟩ := h (by omega)
    exact buildCuts_row b o n c q w hn hc

/-! ### a moved picture -/
theorem ori_move (ax ay bx by' cx cy tx ty : Int) : oriZ (ax + tx) (ay + ty) (bx + tx) (by' + ty) (cx + tx) (cy + ty) = oriZ ax ay bx by' cx cy := by
  have e : ∀ a b t : Int, a + t - (b + t) = a - b := by intros; omega
  unfold oriZ; simp only [e]

def shift (tx ty : Int) (c : Int × Int × Int) : Int × Int × Int := (c.1, c.2.1 + tx, c.2.2 + ty)

theorem new_move (lo hi : Nat) (eax eay ebx eby fax fay fbx fby tx ty : Int) :
    newCuts lo hi (eax + tx) (eay + ty) (ebx + tx) (eby + ty) (fax + tx) (fay + ty) (fbx + tx) (fby + ty) = (newCuts lo hi eax eay ebx eby fax fay fbx fby).map (shift tx ty) := by
  have e : ∀ a b t : Int, a + t - (b + t) = a - b := by intros; omega
  unfold newCuts
  simp only [ori_move, btw_move, e]
  split
  · simp only [List.map_cons, List.map_nil, shift]
    have e2 : ∀ a b c : Int, a + b + c = a + c + b := by intros; omega
    simp only [e2 eax tx, e2 eay ty]
  · simp only [List.map_append]
    congr 1
    · split <;> rfl
    · congr 1
      · split <;> rfl
      · congr 1
        · split <;> rfl
        · split <;> rfl

theorem new_le (lo hi : Nat) (eax eay ebx eby fax fay fbx fby : Int) : (newCuts lo hi eax eay ebx eby fax fay fbx fby).length ≤ 4 := by
  unfold newCuts
  split
  · simp
  · simp only [List.length_append]
    have h : ∀ (b : Bool) (c : Int × Int × Int), (if b then [c] else []).length ≤ 1 := by intro b c; cases b <;> simp
    have h1 := h (decide (oriZ fax fay fbx fby eax eay = 0) && btwB fax fay fbx fby eax eay) ((hi : Int), eax, eay)
    have h2 := h (decide (oriZ fax fay fbx fby ebx eby = 0) && btwB fax fay fbx fby ebx eby) ((hi : Int), ebx, eby)
    have h3 := h (decide (oriZ eax eay ebx eby fax fay = 0) && btwB eax eay ebx eby fax fay) ((lo : Int), fax, fay)
    have h4 := h (decide (oriZ eax eay ebx eby fbx fby = 0) && btwB eax eay ebx eby fbx fby) ((lo : Int), fbx, fby)
    omega

/-! ### an edge out of the built row -/
theorem edge_of {w : World} {B g n : Nat} {s : Segs} {tx ty : Int} (h : w.ownsRow B 63 8 (.slice (some ⟨g, 0, none⟩) n n) n (rowOf (n * 8) (edgeT s tx ty))) (i : Nat) (hi : i < n) {ax ay bx by' : Int}
    (e0 : wrap64 (s.ax i + tx) = ax) (e1 : wrap64 (s.ay i + ty) = ay) (e2 : wrap64 (s.bx i + tx) = bx) (e3 : wrap64 (s.by' i + ty) = by') : EdgeAt w g i ax ay bx by' := by
  refine ⟨?_, ?_, ?_, ?_⟩
  · rw [own_rowOf h rfl (i * 8) (by omega), edgeT0, e0]
  · rw [own_rowOf h rfl (i * 8 + 1) (by omega), edgeT1, e1]
  · rw [own_rowOf h rfl (i * 8 + 2) (by omega), edgeT2, e2]
  · rw [show i * 8 + 2 + 1 = i * 8 + 3 by omega, own_rowOf h rfl (i * 8 + 3) (by omega), edgeT3, e3]

theorem own_base {w : World} {B B' : Nat} {e : TypeId} {size : Nat} {v : Value} {n : Nat} {xs : List Value} (h : w.ownsRow B e size v n xs) (hB : B' ≤ B) : w.ownsRow B' e size v n xs := by
  obtain ⟨h1, h2⟩ := h
  refine ⟨h1, ?_⟩
  rcases h2 with h2 | ⟨g, cap, cur, hv, hg, r⟩
  · exact .inl h2
  · exact .inr ⟨g, cap, cur, hv, by omega, r⟩

theorem zzBytes19_yes (a1 a2 : Option Addr) (n c nc cc : Nat) (i j tx ty : Int) (w : World) (h : n ≤ 8192) (h' : nc ≤ 16384) :
    Calls Try.prog 19 #[.slice a1 n c, .int .i64 i, .int .i64 j, .slice a2 nc cc, .int .i64 tx, .int .i64 ty] w fun e w' => e = .returned (.bool true) ∧ w' = w := by
  go_enter Try.func19, Try.ntmps19
  go_wp2
  go_ret
  exact ⟨rfl, rfl⟩

end Go.Proofs.Qxb6609068a.Small
