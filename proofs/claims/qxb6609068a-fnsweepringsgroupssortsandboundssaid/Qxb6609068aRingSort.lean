/-
  A RING's EDGES SORTED: sort.Slice's contract in the words of the rings.
-/
import Derived.Test.Qxb6609068aRing
import Derived.Test.Qxb6609068aSlice
namespace Go.Proofs.Qxb6609068a.Small
open Go.ChangeShapes Go.WideShapes Go.ChangeAt Go.RowKit
open Srt (Grew Kept Reads encF ltF sort_is sort_tiny)
open Go.Sort (PermIn SortedIn grow putRow putCells Holds)
set_option linter.unusedVariables false
set_option linter.unusedSimpArgs false

theorem grewB {A B : World} (h : Grew A B) : Below A.heap.size A B := by
  obtain ⟨q, os, rfl⟩ := h
  exact ⟨rfl, rfl, rfl, by simp [Sort.grow], fun k hk => by
    show ((A.drewN q).heap ++ os)[k]? = _
    rw [Array.getElem?_append_left (by exact hk)]; rfl⟩

theorem own_kept {w w' : World} {base : Nat} {e : TypeId} {size : Nat} {v : Value} {n : Nat} {xs : List Value} {blk : Nat} (h : w.ownsRow base e size v n xs) (k : Kept blk w w') (hne : v.ownBlock ≠ some blk) : w'.ownsRow base e size v n xs := by
  refine ⟨h.1, ?_⟩
  rcases h.2 with h2 | ⟨g, cap, cur, rfl, hg, hh, r⟩
  · exact .inl h2
  · refine .inr ⟨g, cap, cur, rfl, hg, ?_, r⟩
    rw [k.block g (Array.getElem?_eq_some_iff.1 hh).1 (fun e => hne (by rw [e]; rfl))]
    exact hh

/-- indices as elements of Fin n -/
def fins (n : Nat) (h : 0 < n) (l : List Nat) : Array (Fin n) := (l.map fun x => (⟨x % n, Nat.mod_lt _ h⟩ : Fin n)).toArray

theorem fins_val {n : Nat} (h : 0 < n) {l : List Nat} (hl : ∀ x ∈ l, x < n) : (fins n h l).toList.map Fin.val = l := by
  unfold fins
  simp only [List.map_map]
  conv => rhs; rw [← List.map_id l]
  apply List.map_congr_left
  intro x hx
  exact Nat.mod_eq_of_lt (hl x hx)

theorem ixs_fin {n : Nat} (d : Array (Fin n)) : ixs (d.toList.map Fin.val) = d.toList.map encF := by
  unfold ixs
  rw [List.map_map]; rfl

theorem take_put {n : Nat} [Inhabited (Fin n)] (cur : Array Value) (d : Array (Fin n)) (h : d.size ≤ cur.size) : (putCells encF 0 d cur).toList.take d.size = d.toList.map encF := by
  apply List.ext_getElem?
  intro j
  by_cases hj : j < d.size
  · rw [List.getElem?_take_of_lt hj, Array.getElem?_toList]
    simp [putCells, hj, show j < cur.size by omega]
  · rw [List.getElem?_take_eq_none (by omega), List.getElem?_eq_none (by simp; omega)]

theorem heap_sw {n : Nat} [Inhabited (Fin n)] {W w' : World} {blk : Nat} {d : Array (Fin n)} {cur : Array Value} {e : TypeId} {fr : Nat × Nat} (h : SW encF W blk 0 d w') (hb : W.heap[blk]? = some (.cells cur e fr)) : w'.heap[blk]? = some (.cells (putCells encF 0 d cur) e fr) := by
  obtain ⟨q, os, rfl⟩ := h
  have hg : blk < W.heap.size := (Array.getElem?_eq_some_iff.1 hb).1
  unfold sortWorld
  show ((W.heap.modify blk _) ++ os)[blk]? = _
  rw [Array.getElem?_append_left (by simpa using hg), Array.getElem?_modify]
  simp [hb, Sort.onCells]

theorem ring_sort {n : Nat} (hn0 : 0 < n) (hn : n ≤ 8192) {base : Nat} {wr : World} {g m c : Nat} {E : Nat → Value} {L : Nat → List Nat} {B : Nat → Nat → Int} (s : Segs) (X Eb ge k : Nat)
    (hR : RingsAt base wr (.slice (some ⟨g, 0, none⟩) m c) m E L B) (hk : k < m) (hL : ∀ x ∈ L k, x < n) (hlen : (L k).length ≤ 8192) (hbase : base ≤ wr.heap.size)
    (hx : wr.cell? ⟨X, 0, none⟩ = some (.func (.func 38) #[] #[])) (he : wr.cell? ⟨Eb, 0, none⟩ = some (.slice (some ⟨ge, 0, none⟩) n n))
    (hed : ∀ k, k < n → wr.cell? ⟨ge, k * 8, none⟩ = some (.int .i64 (s.ax k)) ∧ wr.cell? ⟨ge, k * 8 + 1, none⟩ = some (.int .i64 (s.ay k)) ∧ wr.cell? ⟨ge, k * 8 + 2, none⟩ = some (.int .i64 (s.bx k)) ∧ wr.cell? ⟨ge, k * 8 + 2 + 1, none⟩ = some (.int .i64 (s.by' k)))
    (hX : X < base) (hE : Eb < base) (hG : ge < base) :
    Calls Try.prog 48 #[.iface 49 (E k), .func (.func 49) #[] #[.pointer (some ⟨X, 0, none⟩), .pointer (some ⟨Eb, 0, none⟩), .pointer (some ⟨wr.heap.size, 0, none⟩)]] (wr.alloc (.cells #[E k] 49)) fun e w' =>
      e = .returned (.tuple #[]) ∧ ∃ l : List Nat, l.Perm (L k) ∧ l.Pairwise (fun a b => min (s.ay a) (s.by' a) ≤ min (s.ay b) (s.by' b)) ∧ RingsAt base w' (.slice (some ⟨g, 0, none⟩) m c) m E (fun j => if j = k then l else L j) B ∧ Below base wr w' := by
  have hBel : Below base wr (wr.alloc (.cells #[E k] 49)) := (Below.refl base wr).alloc hbase _
  have hR1 : RingsAt base (wr.alloc (.cells #[E k] 49)) (.slice (some ⟨g, 0, none⟩) m c) m E L B := hR.on ((Below.refl wr.heap.size wr).alloc (Nat.le_refl _) _)
  by_cases h1 : (L k).length ≤ 1
  · obtain ⟨p, c', hv, _⟩ := own_is (hR.eds k hk)
    rw [hv] at hR1 hBel ⊢
    refine (sort_tiny p (L k).length c' h1 _ _).mono ?_
    rintro e w' ⟨rfl, hg⟩
    refine ⟨rfl, L k, List.Perm.refl _, ?_, (hR1.on (grewB hg)).congr (fun j _ => ?_) (fun _ _ _ _ => rfl), hBel.trans ((grewB hg).mono (Nat.le_trans hbase hBel.size))⟩
    · match h : L k, h1 with
      | [], _ => exact List.Pairwise.nil
      | [x], _ => simp
      | x :: y :: r, h1 => simp at h1
    · by_cases e : j = k
      · rw [if_pos e, e]
      · rw [if_neg e]
  · have h2 : 2 ≤ (L k).length := by omega
    haveI : Inhabited (Fin n) := ⟨⟨0, hn0⟩⟩
    have hsize : (fins n hn0 (L k)).size = (L k).length := by simp [fins]
    have hval := fins_val hn0 hL
    rcases (hR1.eds k hk).2 with ⟨h0, h0'⟩ | ⟨blk, cap, cur, hv, hb, hh, hcap, hcm, hcs, htake⟩
    · omega
    have hblk : blk < (wr.alloc (.cells #[E k] 49)).heap.size := (Array.getElem?_eq_some_iff.1 hh).1
    have hbne : blk ≠ wr.heap.size := by
      intro e
      rw [e, heap_alloc_new] at hh
      simp at hh
    have htake' : cur.toList.take (L k).length = (fins n hn0 (L k)).toList.map encF := by
      rw [← ixs_fin, hval, ← Nat.mul_one (L k).length]; exact htake
    have hH : Holds encF (wr.alloc (.cells #[E k] 49)) blk 0 (fins n hn0 (L k)) := by
      intro j hj
      have hj' : j < (L k).length := by omega
      refine ⟨?_, frozen_of_row _ _ _ _ _ hh⟩
      have e1 : (cur.toList.take (L k).length)[j]? = ((fins n hn0 (L k)).toList.map encF)[j]? := by rw [htake']
      rw [List.getElem?_take_of_lt hj'] at e1
      rw [Nat.zero_add, cell_of_row _ _ j _ _ _ hh, ← Array.getElem?_toList, e1]
      simp [hj]
    have hkept : ∀ {a : Addr} {u : Value}, wr.cell? a = some u → (wr.alloc (.cells #[E k] 49)).cell? a = some u := fun {a u} h => cell_on ((Below.refl wr.heap.size wr).alloc (Nat.le_refl _) _) h
    have hReads : Reads (wr.alloc (.cells #[E k] 49)) X Eb wr.heap.size ge n blk (fins n hn0 (L k)).size cap s.ax s.ay s.bx s.by' := by
      refine ⟨hkept hx, hkept he, ?_, fun i hi => ?_, by omega, by omega, fun e => hbne e.symm, by omega⟩
      · rw [hsize, ← hv]
        exact cell_of_row _ _ 0 _ _ _ (heap_alloc_new wr _)
      · obtain ⟨a0, a1, a2, a3⟩ := hed i hi
        exact ⟨hkept a0, hkept a1, hkept a2, hkept a3⟩
    have hS := sort_is hn X Eb wr.heap.size ge blk cap s.ax s.ay s.bx s.by' (fins n hn0 (L k)) (by omega) (by omega) _ hReads hH hblk
    rw [hsize, ← hv] at hS
    refine hS.mono ?_
    rintro e w' ⟨rfl, d', hp, hso, hsw, hkp⟩
    have hd' : d'.size = (L k).length := by rw [hp.1, hsize]
    have hperm : (d'.toList.map Fin.val).Perm (L k) := by
      have h := hp.2.2
      rw [show d'.extract 0 (L k).length = d' by rw [← hd']; simp, show (fins n hn0 (L k)).extract 0 (L k).length = fins n hn0 (L k) by rw [← hsize]; simp] at h
      have h' := h.map Fin.val
      rw [hval] at h'
      exact h'
    have hll : (d'.toList.map Fin.val).length = (L k).length := hperm.length_eq
    have hown : w'.ownsRow base 3 1 (E k) (d'.toList.map Fin.val).length (ixs (d'.toList.map Fin.val)) := by
      refine ⟨by simp [ixs], .inr ⟨blk, cap, _, by rw [hll]; exact hv, hb, heap_sw hsw hh, by rw [hll]; exact hcap, hcm, by simp [putCells, hcs], ?_⟩⟩
      rw [hll, ixs_fin, Nat.mul_one, ← hd']
      exact take_put cur d' (by omega)
    have hEk : (E k).ownBlock = some blk := by rw [hv]; rfl
    refine ⟨rfl, d'.toList.map Fin.val, hperm, ?_, ⟨?_, fun j hj => ?_, hR1.sep⟩, ?_⟩
    · rw [List.pairwise_map]
      rw [List.pairwise_iff_getElem]
      intro i j hi hj hij
      have h := hso i j (Nat.zero_le _) hij (by simp at hj; omega)
      simp only [Array.length_toList] at hi hj
      rw [ltF, getElem!_pos d' j hj, getElem!_pos d' i hi] at h
      simp only [decide_eq_false_iff_not, Int.not_lt] at h
      simpa using h
    · refine own_kept hR1.row hkp ?_
      intro e
      have h := own_apart hR1.row (hR1.eds k hk) (by decide)
      rw [hEk, e] at h
      rcases h with h | h
      · cases h
      · exact h rfl
    · by_cases e : j = k
      · subst e
        rw [if_pos rfl]; exact hown
      · rw [if_neg e]
        refine own_kept (hR1.eds j hj) hkp ?_
        intro he'
        have h := hR1.sep j k hj hk e
        rw [hEk, he'] at h
        rcases h with h | h
        · cases h
        · exact h rfl
    · refine hBel.trans ?_
      have hk2 := hkp
      obtain ⟨q, os, rfl⟩ := hsw
      exact ⟨rfl, rfl, rfl, hk2.size, fun b hb' => hk2.block b (by have := hBel.size; omega) (by omega)⟩

end Go.Proofs.Qxb6609068a.Small
