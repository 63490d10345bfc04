/-
  THE RINGS OF sweepRings: what a row of rings holds, and what the steps of the loop do to it.
-/
import Derived.Test.Qxb6609068aBuild
import Derived.Maps.AppendAt
namespace Go.Proofs.Qxb6609068a.Small
open Go.ChangeShapes Go.WideShapes Go.ChangeAt Go.RowKit
set_option linter.unusedVariables false

/-! ### the plain functions -/
/-- the edges of ring k among the first i -/
def es (rg : Nat → Int) (k : Nat) : Nat → List Nat
  | 0 => []
  | i + 1 => if rg i = (k : Int) then es rg k i ++ [i] else es rg k i

/-- how many rings the first i edges make -/
def top (rg : Nat → Int) : Nat → Nat
  | 0 => 0
  | i + 1 => max (top rg i) ((rg i).toNat + 1)

/-- the ends of edge i, the first of them: x, y, x, y -/
def fst4 (s : Segs) (i t : Nat) : Int := match t with
  | 0 => s.ax i
  | 1 => s.ay i
  | 2 => s.ax i
  | _ => s.ay i
/-- a box, made to hold both ends of edge i -/
def comb (s : Segs) (i t : Nat) (p : Int) : Int := match t with
  | 0 => min (min p (s.ax i)) (s.bx i)
  | 1 => min (min p (s.ay i)) (s.by' i)
  | 2 => max (max p (s.ax i)) (s.bx i)
  | _ => max (max p (s.ay i)) (s.by' i)
/-- the box of ring k after the first i edges: lo x, lo y, hi x, hi y -/
def bxs (s : Segs) (k : Nat) : Nat → Nat → Int
  | 0, _ => 0
  | i + 1, t => if s.rg i = (k : Int) then comb s i t (if es s.rg k i = [] then fst4 s i t else bxs s k i t) else bxs s k i t

theorem es_above {rg : Nat → Int} (k : Nat) : ∀ i, top rg i ≤ k → es rg k i = []
  | 0, _ => rfl
  | i + 1, h => by
    have h1 : top rg i ≤ k := Nat.le_trans (Nat.le_max_left _ _) h
    have h2 : (rg i).toNat + 1 ≤ k := Nat.le_trans (Nat.le_max_right _ _) h
    rw [es, if_neg (by omega), es_above k i h1]

theorem bxs_above {s : Segs} (k t : Nat) : ∀ i, top s.rg i ≤ k → bxs s k i t = 0
  | 0, _ => rfl
  | i + 1, h => by
    have h1 : top s.rg i ≤ k := Nat.le_trans (Nat.le_max_left _ _) h
    have h2 : (s.rg i).toNat + 1 ≤ k := Nat.le_trans (Nat.le_max_right _ _) h
    rw [bxs, if_neg (by omega), bxs_above k t i h1]

theorem es_lt {rg : Nat → Int} {k : Nat} : ∀ i, ∀ x ∈ es rg k i, x < i ∧ rg x = (k : Int)
  | 0, x, h => by simp [es] at h
  | i + 1, x, h => by
    rw [es] at h
    split at h
    · rcases List.mem_append.1 h with h | h
      · have := es_lt i x h; exact ⟨by omega, this.2⟩
      · simp at h; subst h; exact ⟨by omega, by assumption⟩
    · have := es_lt i x h; exact ⟨by omega, this.2⟩

theorem es_len {rg : Nat → Int} {k : Nat} : ∀ i, (es rg k i).length ≤ i
  | 0 => Nat.le_refl _
  | i + 1 => by
    have := es_len (rg := rg) (k := k) i
    rw [es]
    split
    · simp; omega
    · omega

/-! ### the row of rings -/
abbrev nilS : Value := .slice none 0 0

def ringT (E : Nat → Value) (B : Nat → Nat → Int) (j : Nat) : Value :=
  match j % 7 with
  | 0 => E (j / 7)
  | 1 => .int .i64 0
  | 2 => nilS
  | t + 3 => .int .i64 (B (j / 7) t)

theorem ringT0 (E : Nat → Value) (B : Nat → Nat → Int) (k : Nat) : ringT E B (k * 7) = E k := by
  unfold ringT; rw [show (k * 7) % 7 = 0 by omega, show (k * 7) / 7 = k by omega]
theorem ringT1 (E : Nat → Value) (B : Nat → Nat → Int) (k : Nat) : ringT E B (k * 7 + 1) = .int .i64 0 := by
  unfold ringT; rw [show (k * 7 + 1) % 7 = 1 by omega]
theorem ringT2 (E : Nat → Value) (B : Nat → Nat → Int) (k : Nat) : ringT E B (k * 7 + 2) = nilS := by
  unfold ringT; rw [show (k * 7 + 2) % 7 = 2 by omega]
theorem ringT3 (E : Nat → Value) (B : Nat → Nat → Int) (k t : Nat) (h : t < 4) : ringT E B (k * 7 + (3 + t)) = .int .i64 (B k t) := by
  unfold ringT; rw [show (k * 7 + (3 + t)) % 7 = t + 3 by omega, show (k * 7 + (3 + t)) / 7 = k by omega]

theorem ringT_congr {m : Nat} {E E' : Nat → Value} {B B' : Nat → Nat → Int} (hE : ∀ k, k < m → E k = E' k) (hB : ∀ k t, k < m → t < 4 → B k t = B' k t) : rowOf (m * 7) (ringT E B) = rowOf (m * 7) (ringT E' B') := by
  apply rowOf_congr
  intro j hj
  have hk : j / 7 < m := by omega
  rcases (by omega : j = j / 7 * 7 ∨ j = j / 7 * 7 + 1 ∨ j = j / 7 * 7 + 2 ∨ j = j / 7 * 7 + (3 + 0) ∨ j = j / 7 * 7 + (3 + 1) ∨ j = j / 7 * 7 + (3 + 2) ∨ j = j / 7 * 7 + (3 + 3)) with e | e | e | e | e | e | e
  · rw [e, ringT0, ringT0, hE _ hk]
  · rw [e, ringT1, ringT1]
  · rw [e, ringT2, ringT2]
  · rw [e, ringT3 _ _ _ _ (by omega), ringT3 _ _ _ _ (by omega), hB _ _ hk (by omega)]
  · rw [e, ringT3 _ _ _ _ (by omega), ringT3 _ _ _ _ (by omega), hB _ _ hk (by omega)]
  · rw [e, ringT3 _ _ _ _ (by omega), ringT3 _ _ _ _ (by omega), hB _ _ hk (by omega)]
  · rw [e, ringT3 _ _ _ _ (by omega), ringT3 _ _ _ _ (by omega), hB _ _ hk (by omega)]

/-- indices, as cells -/
def ixs (l : List Nat) : List Value := l.map fun j => .int .i64 ((j : Nat) : Int)

structure RingsAt (base : Nat) (w : World) (v : Value) (m : Nat) (E : Nat → Value) (L : Nat → List Nat) (B : Nat → Nat → Int) : Prop where
  row : w.ownsRow base 57 7 v m (rowOf (m * 7) (ringT E B))
  eds : ∀ k, k < m → w.ownsRow base 3 1 (E k) (L k).length (ixs (L k))
  sep : ∀ k j, k < m → j < m → k ≠ j → (E k).ownBlock = none ∨ (E k).ownBlock ≠ (E j).ownBlock

theorem RingsAt.on {base : Nat} {w w' : World} {v : Value} {m : Nat} {E : Nat → Value} {L : Nat → List Nat} {B : Nat → Nat → Int} (h : RingsAt base w v m E L B) (hb : Below w.heap.size w w') : RingsAt base w' v m E L B :=
  ⟨own_on h.row hb, fun k hk => own_on (h.eds k hk) hb, h.sep⟩

theorem RingsAt.congr {base : Nat} {w : World} {v : Value} {m : Nat} {E : Nat → Value} {L L' : Nat → List Nat} {B B' : Nat → Nat → Int} (h : RingsAt base w v m E L B) (hL : ∀ k, k < m → L k = L' k) (hB : ∀ k t, k < m → t < 4 → B k t = B' k t) : RingsAt base w v m E L' B' :=
  ⟨by rw [← ringT_congr (fun _ _ => rfl) hB]; exact h.row, fun k hk => by rw [← hL k hk]; exact h.eds k hk, h.sep⟩

theorem own_is {w : World} {base : Nat} {e : TypeId} {size : Nat} {v : Value} {n : Nat} {xs : List Value} (h : w.ownsRow base e size v n xs) : ∃ p c, v = .slice p n c ∧ n ≤ c := by
  rcases h.2 with ⟨rfl, rfl⟩ | ⟨g, cap, cur, rfl, _, _, hc, _⟩
  · exact ⟨none, 0, rfl, Nat.le_refl _⟩
  · exact ⟨_, cap, rfl, hc⟩
theorem own_some {w : World} {base : Nat} {e : TypeId} {size : Nat} {v : Value} {n : Nat} {xs : List Value} (h : w.ownsRow base e size v n xs) (hn : 0 < n) : ∃ g c, v = .slice (some ⟨g, 0, none⟩) n c ∧ base ≤ g ∧ g < w.heap.size := by
  have hl := h.lt
  rcases h.2 with ⟨rfl, rfl⟩ | ⟨g, cap, cur, rfl, hb, hh, _⟩
  · omega
  · exact ⟨g, cap, rfl, hb, (hl g rfl).2⟩

/-- rows of two kinds lie in two blocks -/
theorem own_apart {w : World} {base : Nat} {e e' : TypeId} {size size' : Nat} {v v' : Value} {n n' : Nat} {xs xs' : List Value} (h : w.ownsRow base e size v n xs) (h' : w.ownsRow base e' size' v' n' xs') (hne : e ≠ e') : v.ownBlock = none ∨ v.ownBlock ≠ v'.ownBlock := by
  rcases h.2 with ⟨rfl, _⟩ | ⟨g, cap, cur, rfl, _, hh, _⟩
  · exact .inl rfl
  · refine .inr ?_
    rcases h'.2 with ⟨rfl, _⟩ | ⟨g', cap', cur', rfl, _, hh', _⟩
    · simp [Value.ownBlock]
    · intro he
      simp only [Value.ownBlock, Option.some.injEq] at he
      subst he
      rw [hh] at hh'
      simp at hh'
      exact hne hh'.2

theorem setCell_grown (w : World) (g o : Nat) (u : Value) : w.grownBy (w.setCell ⟨g, o, none⟩ u) (some g) :=
  ⟨rfl, rfl, rfl, by simp, fun k _ hn => heap_setCell_other w _ k u (fun e => hn (by rw [e]))⟩

/-- a store into the row of rings: another box -/
def upd (B : Nat → Nat → Int) (r t : Nat) (z : Int) : Nat → Nat → Int := fun k t' => if k = r ∧ t' = t then z else B k t'

theorem RingsAt.putB {base : Nat} {w : World} {g m c : Nat} {E : Nat → Value} {L : Nat → List Nat} {B : Nat → Nat → Int} (h : RingsAt base w (.slice (some ⟨g, 0, none⟩) m c) m E L B) (r t : Nat) (hr : r < m) (ht : t < 4) (z : Int) :
    RingsAt base (w.setCell ⟨g, r * 7 + (3 + t), none⟩ (.int .i64 z)) (.slice (some ⟨g, 0, none⟩) m c) m E L (upd B r t z) := by
  refine ⟨?_, fun k hk => (h.eds k hk).kept (setCell_grown w g _ _) (own_apart (h.eds k hk) h.row (by decide)), h.sep⟩
  have a := own_put h.row (r * 7 + (3 + t)) (.int .i64 z)
  have e : rowOf (m * 7) (ringT E (upd B r t z)) = rowOf (m * 7) (fun i => if i = r * 7 + (3 + t) then .int .i64 z else ringT E B i) := by
    apply rowOf_congr
    intro j hj
    by_cases he : j = r * 7 + (3 + t)
    · rw [if_pos he, he, ringT3 _ _ _ _ ht]
      simp [upd]
    · rw [if_neg he]
      unfold ringT
      split
      · rfl
      · rfl
      · rfl
      · rename_i t' ht'
        have : ¬ (j / 7 = r ∧ t' = t) := by omega
        simp only [upd]
        rw [if_neg this]
  rw [e]; exact a

/-- a ring more, empty -/
theorem ring_more {m : Nat} {E : Nat → Value} {B : Nat → Nat → Int} (hE : E m = nilS) (hB : ∀ t, t < 4 → B m t = 0) : rowOf ((m + 1) * 7) (ringT E B) = rowOf (m * 7) (ringT E B) ++ [nilS, .int .i64 0, nilS, .int .i64 0, .int .i64 0, .int .i64 0, .int .i64 0] := by
  have e : ∀ j, rowOf (m * 7 + j) (ringT E B) = rowOf (m * 7) (ringT E B) ++ (List.range j).map (fun i => ringT E B (m * 7 + i)) := by
    intro j
    unfold rowOf
    rw [List.range_add, List.map_append, List.map_map]; rfl
  rw [show (m + 1) * 7 = m * 7 + 7 by omega, e 7]
  congr 1
  show [ringT E B (m * 7 + 0), ringT E B (m * 7 + 1), ringT E B (m * 7 + 2), ringT E B (m * 7 + 3), ringT E B (m * 7 + 4), ringT E B (m * 7 + 5), ringT E B (m * 7 + 6)] = _
  rw [Nat.add_zero, ringT0, ringT1, ringT2, show m * 7 + 3 = m * 7 + (3 + 0) by omega, show m * 7 + 4 = m * 7 + (3 + 1) by omega, show m * 7 + 5 = m * 7 + (3 + 2) by omega, show m * 7 + 6 = m * 7 + (3 + 3) by omega,
    ringT3 _ _ _ _ (by omega), ringT3 _ _ _ _ (by omega), ringT3 _ _ _ _ (by omega), ringT3 _ _ _ _ (by omega), hE, hB 0 (by omega), hB 1 (by omega), hB 2 (by omega), hB 3 (by omega)]

theorem RingsAt.more {base : Nat} {w w' : World} {v v' : Value} {m : Nat} {E : Nat → Value} {L : Nat → List Nat} {B : Nat → Nat → Int} {o : Obj} (h : RingsAt base w v m E L B) (hE : E m = nilS) (hL : L m = []) (hB : ∀ t, t < 4 → B m t = 0)
    (hown : w'.ownsRow base 57 7 v' (m + 1) (rowOf (m * 7) (ringT E B) ++ [nilS, .int .i64 0, nilS, .int .i64 0, .int .i64 0, .int .i64 0, .int .i64 0])) (hgrow : (w.alloc o).grownBy w' v.ownBlock) : RingsAt base w' v' (m + 1) E L B := by
  refine ⟨by rw [ring_more hE hB]; exact hown, fun k hk => ?_, fun k j hk hj hne => ?_⟩
  · by_cases e : k = m
    · subst e
      rw [hE, hL]
      exact World.ownsRow_nil _ _ _ _
    · exact ((h.eds k (by omega)).alloc o).kept hgrow (own_apart (h.eds k (by omega)) h.row (by decide))
  · by_cases e : k = m
    · subst e; rw [hE]; exact .inl rfl
    · by_cases e' : j = m
      · subst e'
        rw [hE]
        cases hb : (E k).ownBlock
        · exact .inl rfl
        · exact .inr (by simp [Value.ownBlock])
      · exact h.sep k j (by omega) (by omega) hne

/-- an edge more in ring r -/
theorem RingsAt.add {base : Nat} {w w' : World} {g m c : Nat} {v' : Value} {E : Nat → Value} {L : Nat → List Nat} {B : Nat → Nat → Int} {o : Obj} (h : RingsAt base w (.slice (some ⟨g, 0, none⟩) m c) m E L B) (r i : Nat) (hr : r < m)
    (hown : w'.ownsRow base 3 1 v' ((L r).length + 1) (ixs (L r) ++ [.int .i64 (i : Int)])) (hgrow : (w.alloc o).grownBy w' (E r).ownBlock) (hat : v'.ownBlock = (E r).ownBlock ∨ v'.ownBlock = some (w.alloc o).heap.size) :
    RingsAt base (w'.setCell ⟨g, r * 7, none⟩ v') (.slice (some ⟨g, 0, none⟩) m c) m (fun k => if k = r then v' else E k) (fun k => if k = r then L k ++ [i] else L k) B := by
  have hrow : w'.ownsRow base 57 7 (.slice (some ⟨g, 0, none⟩) m c) m (rowOf (m * 7) (ringT E B)) := (h.row.alloc o).kept hgrow (own_apart h.row (h.eds r hr) (by decide))
  have hrow' : (w'.setCell ⟨g, r * 7, none⟩ v').ownsRow base 57 7 (.slice (some ⟨g, 0, none⟩) m c) m (rowOf (m * 7) (ringT (fun k => if k = r then v' else E k) B)) := by
    have a := own_put hrow (r * 7) v'
    have e : rowOf (m * 7) (ringT (fun k => if k = r then v' else E k) B) = rowOf (m * 7) (fun i => if i = r * 7 then v' else ringT E B i) := by
      apply rowOf_congr
      intro j hj
      by_cases he : j = r * 7
      · rw [if_pos he, he, ringT0, if_pos rfl]
      · rw [if_neg he]
        unfold ringT
        split
        · rename_i h0
          have : ¬ j / 7 = r := by omega
          simp only [if_neg this]
        · rfl
        · rfl
        · rfl
    rw [e]; exact a
  have hlt : ∀ k, k < m → ∀ b, (E k).ownBlock = some b → b < (w.alloc o).heap.size := fun k hk b hb => (((h.eds k hk).alloc o).lt b hb).2
  refine ⟨hrow', fun k hk => ?_, fun k j hk hj hne => ?_⟩
  · by_cases e : k = r
    · subst e
      simp only [if_true]
      have : w'.ownsRow base 3 1 v' (L k ++ [i]).length (ixs (L k ++ [i])) := by
        rw [List.length_append]
        show w'.ownsRow base 3 1 v' ((L k).length + 1) ((L k ++ [i]).map _)
        rw [List.map_append]; exact hown
      exact this.kept (setCell_grown w' g _ _) (own_apart this hrow (by decide))
    · simp only [if_neg e]
      have h1 := ((h.eds k hk).alloc o).kept hgrow (h.sep k r hk hr e)
      exact h1.kept (setCell_grown w' g _ _) (own_apart h1 hrow (by decide))
  · by_cases e : k = r
    · subst e
      have hj' : ¬ j = k := fun h => hne h.symm
      simp only [if_true, if_neg hj']
      rcases hat with hat | hat
      · rw [hat]; exact h.sep k j hk hj hne
      · rw [hat]
        refine .inr ?_
        intro he
        have := hlt j hj _ he.symm
        omega
    · by_cases e' : j = r
      · subst e'
        simp only [if_neg e, if_true]
        rcases hat with hat | hat
        · rw [hat]; exact h.sep k j hk hj hne
        · rw [hat]
          cases hb : (E k).ownBlock with
          | none => exact .inl rfl
          | some b =>
            refine .inr ?_
            intro he
            have := hlt k hk b hb
            simp only [Option.some.injEq] at he
            omega
      · simp only [if_neg e, if_neg e']
        exact h.sep k j hk hj hne

end Go.Proofs.Qxb6609068a.Small
