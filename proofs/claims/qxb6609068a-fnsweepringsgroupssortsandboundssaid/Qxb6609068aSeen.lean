/-
  PLAIN: the marks that the law keeps of the edges that it has seen.
-/
import Derived.Test.Qxb6609068aSwFill
namespace Go.Proofs.Qxb6609068a.Small
open Go.ChangeShapes Go.WideShapes Go.ChangeAt Go.RowKit
set_option linter.unusedVariables false

theorem es_mem {rg : Nat → Int} {k : Nat} : ∀ n i, i < n → rg i = (k : Int) → i ∈ es rg k n
  | 0, i, h, _ => absurd h (Nat.not_lt_zero _)
  | n + 1, i, h, hr => by
    rw [es]
    by_cases e : i = n
    · subst e
      rw [if_pos hr]; simp
    · have := es_mem n i (by omega) hr
      split
      · exact List.mem_append_left _ this
      · exact this

theorem es_nodup {rg : Nat → Int} {k : Nat} : ∀ n, (es rg k n).Nodup
  | 0 => List.nodup_nil
  | n + 1 => by
    rw [es]
    split
    · rw [List.nodup_append]
      refine ⟨es_nodup n, by simp, ?_⟩
      intro a ha b hb
      simp at hb
      have := (es_lt n a ha).1
      omega
    · exact es_nodup n

/-- what the marks say: rings below r, and the first k edges of ring r -/
def sF (s : Segs) (L : Nat → List Nat) (r k : Nat) : Nat → Value := fun i => .bool (decide (s.rg i < (r : Int)) || decide (i ∈ (L r).take k))

theorem sF_start {s : Segs} {L : Nat → List Nat} {n : Nat} (h : ∀ k, k < n → 0 ≤ s.rg k ∧ s.rg k < 65536) : ∀ i, i < n → Value.bool false = sF s L 0 0 i := by
  intro i hi
  have := h i hi
  unfold sF
  rw [decide_eq_false (by omega)]
  simp

theorem sF_ring {s : Segs} {L : Nat → List Nat} {n r : Nat} (hp : (L r).Perm (es s.rg r n)) : ∀ i, i < n → sF s L r (L r).length i = sF s L (r + 1) 0 i := by
  intro i hi
  unfold sF
  rw [List.take_length]
  congr 1
  rw [Bool.eq_iff_iff]
  simp only [List.take_zero, List.not_mem_nil, decide_false, Bool.or_false, Bool.or_eq_true, decide_eq_true_eq]
  constructor
  · rintro (h | h)
    · omega
    · have := (es_lt n i (hp.mem_iff.1 h)).2; omega
  · intro h
    by_cases e : s.rg i = (r : Int)
    · exact .inr (hp.mem_iff.2 (es_mem n i hi e))
    · left; omega

theorem sF_step {s : Segs} {L : Nat → List Nat} {r k x : Nat} (hx : (L r)[k]? = some x) : ∀ i, (if i = x then .bool true else sF s L r k i) = sF s L r (k + 1) i := by
  intro i
  unfold sF
  have ht : (L r).take (k + 1) = (L r).take k ++ [x] := by rw [List.take_add_one, hx]; rfl
  rw [ht]
  by_cases e : i = x
  · rw [if_pos e, e]; simp
  · rw [if_neg e]
    congr 2
    rw [decide_eq_decide]
    simp [e]

theorem sF_new {s : Segs} {L : Nat → List Nat} {n r k x : Nat} (hp : (L r).Perm (es s.rg r n)) (hx : (L r)[k]? = some x) : sF s L r k x = .bool false := by
  have hm : x ∈ L r := List.mem_of_getElem? hx
  have h1 := (es_lt n x (hp.mem_iff.1 hm)).2
  have hnd : (L r).Nodup := hp.nodup_iff.2 (es_nodup n)
  have h2 : ¬ x ∈ (L r).take k := by
    intro h
    obtain ⟨j, e⟩ := List.mem_iff_getElem?.1 h
    have hj : j < ((L r).take k).length := (List.getElem?_eq_some_iff.1 e).1
    have hjk : j < k := by simp at hj; omega
    rw [List.getElem?_take_of_lt hjk] at e
    have := (List.getElem?_inj (by
      have := (List.getElem?_eq_some_iff.1 e).1
      exact this) hnd).1 (e.trans hx.symm)
    omega
  unfold sF
  rw [decide_eq_false (by omega), decide_eq_false h2]
  rfl

theorem at_facts {s : Segs} {L : Nat → List Nat} {n r k : Nat} (hp : (L r).Perm (es s.rg r n)) (hk : k < (L r).length) : ∃ x, (L r)[k]? = some x ∧ x < n ∧ s.rg x = (r : Int) := by
  refine ⟨(L r)[k], List.getElem?_eq_getElem hk, ?_⟩
  exact es_lt n _ (hp.mem_iff.1 (List.getElem_mem hk))

theorem pair_le {l : List Nat} {f : Nat → Int} {k x y : Nat} (h : l.Pairwise (fun a b => f a ≤ f b)) (hx : l[k]? = some x) (hy : l[k + 1]? = some y) : f x ≤ f y := by
  obtain ⟨h1, e1⟩ := List.getElem?_eq_some_iff.1 hx
  obtain ⟨h2, e2⟩ := List.getElem?_eq_some_iff.1 hy
  have := List.pairwise_iff_getElem.1 h k (k + 1) h1 h2 (by omega)
  rw [e1, e2] at this
  exact this

theorem ixs_get {l : List Nat} {k x : Nat} (h : l[k]? = some x) : (ixs l)[k]? = some (.int .i64 (x : Int)) := by
  unfold ixs
  rw [List.getElem?_map, h]; rfl

end Go.Proofs.Qxb6609068a.Small
