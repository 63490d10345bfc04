/-
  sort.Slice, as sweepRings calls it: a row of edges' indices, sorted by the lower of the two y's.
-/
import Derived.Test.Qxb6609068aLess
import Derived.Shelf.GgSortFunc.Whole
import Derived.Shelf.GgSortFunc.Tiny
namespace Go.Proofs.Qxb6609068a.Srt
open Go.Shelf Go.RowKit Go.Lib Go.Sort
set_option linter.unusedVariables false
set_option linter.unusedSimpArgs false

theorem siT : ∃ i, Try.prog.info? 49 = some i ∧ i.desc = .slice 3 := by
  have h : (Try.prog.info? 49).map (fun i => i.desc) = some (.slice 3) := by kernel_rfl
  cases hq : Try.prog.info? 49 with
  | none => rw [hq] at h; simp at h
  | some i => rw [hq] at h; exact ⟨i, rfl, by simpa using h⟩
theorem siE : ∃ i, Try.prog.info? 3 = some i ∧ i.hasPointers = false ∧ i.bytes = 8 ∧ i.size = 1 := by
  have h : (Try.prog.info? 3).map (fun i => (i.hasPointers, i.bytes, i.size)) = some (false, 8, 1) := by kernel_rfl
  cases hq : Try.prog.info? 3 with
  | none => rw [hq] at h; simp at h
  | some i => rw [hq] at h; simp at h; exact ⟨i, rfl, h.1, h.2.1, h.2.2⟩
theorem siK {i : TypeInfo} (a : i.hasPointers = false) (b : i.bytes = 8) (n : Nat) (h2 : 2 ≤ n) : Lib.swapperK n i 2 = 5 := by
  have c : (n == 0) = false := by simp; omega
  have d : (n == 1) = false := by simp; omega
  simp [Lib.swapperK, a, b, c, d]

/-- an edge's index, as a value -/
def encF {n : Nat} (x : Fin n) : Value := .int .i64 ((x : Nat) : Int)
/-- 'the span of x starts below that of y' -/
def ltF {n : Nat} (key : Nat → Int) (x y : Fin n) : Bool := decide (key x < key y)

theorem swo_ltF {n : Nat} (key : Nat → Int) : SWO (ltF (n := n) key) where
  irrefl x := by simp [ltF]
  trans x y z h1 h2 := by simp only [ltF, decide_eq_true_eq] at *; omega
  ntrans x y z h1 h2 := by simp only [ltF, decide_eq_false_iff_not] at *; omega

theorem sw_kept {α : Type} [Inhabited α] {enc : α → Value} {blk off : Nat} {w0 W : World} {dk : Array α} (h : SW enc w0 blk off dk W) : Kept blk w0 W := by
  obtain ⟨m, os, rfl⟩ := h
  exact kept_sortWorld _ _ _ _ _ _ _

/-- what the closure reads, besides the row -/
structure Reads (W : World) (X E S ge n blk m c : Nat) (ax ay bx by' : Nat → Int) : Prop where
  x : W.cell? ⟨X, 0, none⟩ = some (.func (.func 38) #[] #[])
  e : W.cell? ⟨E, 0, none⟩ = some (.slice (some ⟨ge, 0, none⟩) n n)
  s : W.cell? ⟨S, 0, none⟩ = some (.slice (some ⟨blk, 0, none⟩) m c)
  edge : ∀ k, k < n → W.cell? ⟨ge, k * 8, none⟩ = some (.int .i64 (ax k)) ∧ W.cell? ⟨ge, k * 8 + 1, none⟩ = some (.int .i64 (ay k)) ∧ W.cell? ⟨ge, k * 8 + 2, none⟩ = some (.int .i64 (bx k)) ∧ W.cell? ⟨ge, k * 8 + 2 + 1, none⟩ = some (.int .i64 (by' k))
  nx : X ≠ blk
  ne : E ≠ blk
  ns : S ≠ blk
  ng : ge ≠ blk

theorem Reads.kept {W W' : World} {X E S ge n blk m c : Nat} {ax ay bx by' : Nat → Int} (h : Reads W X E S ge n blk m c ax ay bx by') (k : Kept blk W W') : Reads W' X E S ge n blk m c ax ay bx by' where
  x := k.cell h.x h.nx
  e := k.cell h.e h.ne
  s := k.cell h.s h.ns
  edge i hi := by
    obtain ⟨h0, h1, h2, h3⟩ := h.edge i hi
    exact ⟨k.cell h0 h.ng, k.cell h1 h.ng, k.cell h2 h.ng, k.cell h3 h.ng⟩
  nx := h.nx
  ne := h.ne
  ns := h.ns
  ng := h.ng

theorem ctx_of {n : Nat} [Inhabited (Fin n)] (hn : n ≤ 8192) (X E S ge blk c : Nat) (ax ay bx by' : Nat → Int) (d : Array (Fin n)) (h2 : 2 ≤ d.size) (hsz : d.size ≤ 8192) (w : World)
    (hR : Reads w X E S ge n blk d.size c ax ay bx by') (hH : Holds (encF (n := n)) w blk 0 d) (hblk : blk < w.heap.size) :
    Ctx (encF (n := n)) (ltF fun k => min (ay k) (by' k)) #[.pointer (some ⟨X, 0, none⟩), .pointer (some ⟨E, 0, none⟩), .pointer (some ⟨S, 0, none⟩)] 61 #[.slice (some ⟨blk, 0, none⟩) d.size c, typeHandle Try.prog 3] blk 0 d.size w where
  hblk := hblk
  hsz := by omega
  holds := ⟨d, rfl, hH⟩
  less W dk hW hd i j hi hj := by
    have R := hR.kept (sw_kept hW)
    have hHk := hW.holds hblk hH hd
    have r1 := (hHk i (by omega)).1
    have r2 := (hHk j (by omega)).1
    rw [Nat.zero_add] at r1 r2
    obtain ⟨e0, e1, e2, e3⟩ := R.edge (dk[i]! : Fin n) (dk[i]!).isLt
    obtain ⟨f0, f1, f2, f3⟩ := R.edge (dk[j]! : Fin n) (dk[j]!).isLt
    exact (less_is X E S ge n blk d.size c i j (dk[i]! : Fin n) (dk[j]! : Fin n) _ _ _ _ _ _ _ _ W hi hj (dk[i]!).isLt (dk[j]!).isLt hn R.x R.e R.s r1 r2 e0 e1 e2 e3 f0 f1 f2 f3).mono fun e w' ⟨he, hg⟩ => ⟨he, sw_grew hW hg, hg.kept blk⟩
  swap := by
    obtain ⟨ie, hie, e1, e2, e3⟩ := siE
    exact swapSwaps_of_literal (P := Try.prog) true 61 (fun args W => run_callFunc_extern Try.func61 (by kernel_rfl) (by kernel_rfl) (by kernel_rfl) (e := Extern.ReflectliteSwapper.swap true) (by kernel_rfl) args W) 3 ie hie e3 (fun _ => by kernel_rfl) encF (fun _ => rfl) blk 0 d.size c

/-- two elements or more -/
theorem sort_is {n : Nat} [Inhabited (Fin n)] (hn : n ≤ 8192) (X E S ge blk c : Nat) (ax ay bx by' : Nat → Int) (d : Array (Fin n)) (h2 : 2 ≤ d.size) (hsz : d.size ≤ 8192) (w : World)
    (hR : Reads w X E S ge n blk d.size c ax ay bx by') (hH : Holds (encF (n := n)) w blk 0 d) (hblk : blk < w.heap.size) :
    Calls Try.prog 48 #[.iface 49 (.slice (some ⟨blk, 0, none⟩) d.size c), .func (.func 49) #[] #[.pointer (some ⟨X, 0, none⟩), .pointer (some ⟨E, 0, none⟩), .pointer (some ⟨S, 0, none⟩)]] w fun e w' =>
      e = .returned (.tuple #[]) ∧ ∃ d' : Array (Fin n), PermIn 0 d.size d d' ∧ SortedIn (ltF fun k => min (ay k) (by' k)) 0 d.size d' ∧ SW encF w blk 0 d' w' ∧ Kept blk w w' := by
  have C := ctx_of hn X E S ge blk c ax ay bx by' d h2 hsz w hR hH hblk
  have hO := swo_ltF (n := n) fun k => min (ay k) (by' k)
  obtain ⟨it, hit, hdt⟩ := siT
  obtain ⟨ie, hie, e1, e2, e3⟩ := siE
  have hB : sliceBound Try.prog 3 ie 2 (some ⟨blk, 0, none⟩) d.size c = #[.slice (some ⟨blk, 0, none⟩) d.size c, typeHandle Try.prog 3] := by
    unfold sliceBound; rw [if_neg (swapperK_gt _ _ _ h2)]
  have hlim : Lib.bitLen d.size < 4611686018427387904 := Nat.lt_of_le_of_lt (Lib.bitLen_le d.size 62 (by omega) (by omega)) (by omega)
  have hS := Any.sort_Slice_of_pdq (P := Try.prog) lay6 49 3 it ie hit hdt (by kernel_rfl) hie 2 (fun _ => by kernel_rfl) (some ⟨blk, 0, none⟩) d.size c (by omega) 61 (by rw [siK e1 e2 _ h2]; kernel_rfl)
    (.func 49) #[] #[.pointer (some ⟨X, 0, none⟩), .pointer (some ⟨E, 0, none⟩), .pointer (some ⟨S, 0, none⟩)] w
    (fun w' => ∃ d' : Array (Fin n), PermIn 0 d.size d d' ∧ SortedIn (ltF fun k => min (ay k) (by' k)) 0 d.size d' ∧ SW encF w blk 0 d' w' ∧ Kept blk w w')
  refine hS ?_
  rw [hB]
  unfold sliceWorld
  have hp := pdq_is C hO (d.size + 1) 0 d.size (Lib.bitLen d.size) 0 d.size (Lib.bitLen d.size) d _ (by omega) rfl rfl rfl rfl (((SW.start hH).alloc (.cells #[.slice (some ⟨blk, 0, none⟩) d.size c] 49)).alloc (.cells #[.pointer (some ⟨Try.prog.globals.size, 49, none⟩), .pointer (some ⟨w.heap.size, 0, none⟩), .int .u64 151] 98)) (Nat.zero_le _) (Nat.le_refl _) hlim (Or.inl rfl)
  refine Calls.mono hp ?_
  rintro e w' ⟨rfl, hs, hk⟩
  have h := pdq_sorts (ltF (n := n) fun k => min (ay k) (by' k)) hO d 0 d.size (Lib.bitLen d.size) true true (Nat.zero_le _) (Nat.le_refl _) (Or.inl rfl)
  exact ⟨rfl, _, h.1, h.2, hs, hk.out.ofAlloc.ofAlloc⟩

/-- no element or one -/
theorem sort_tiny (p : Option Addr) (m c : Nat) (h1 : m ≤ 1) (lb : Array Value) (w : World) :
    Calls Try.prog 48 #[.iface 49 (.slice p m c), .func (.func 49) #[] lb] w fun e w' => e = .returned (.tuple #[]) ∧ Grew w w' := by
  obtain ⟨it, hit, hdt⟩ := siT
  obtain ⟨ie, hie, e1, e2, e3⟩ := siE
  have hK : Lib.swapperK m ie 2 = m + 1 := by
    rcases Nat.eq_zero_or_pos m with h | h
    · subst h; simp [Lib.swapperK]
    · obtain rfl : m = 1 := by omega
      simp [Lib.swapperK]
  have hS := Any.sort_Slice_tiny (P := Try.prog) lay6 49 3 it ie hit hdt (by kernel_rfl) hie 2 (fun _ => by kernel_rfl) p m c h1 (57 + m) (by
    rw [hK]
    rcases Nat.eq_zero_or_pos m with h | h
    · subst h; kernel_rfl
    · obtain rfl : m = 1 := by omega
      kernel_rfl) (.func 49) #[] lb w
  refine Calls.mono hS ?_
  rintro e w' ⟨rfl, os, rfl⟩
  exact ⟨rfl, 0, os, rfl⟩

end Go.Proofs.Qxb6609068a.Srt
