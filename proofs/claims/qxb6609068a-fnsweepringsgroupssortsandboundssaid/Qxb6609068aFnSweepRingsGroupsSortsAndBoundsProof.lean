/-
  'Rows.FnSweepRingsGroupsSortsAndBoundsSaid': the walk of the law over the contracts of its callees; the frame is the guide's template at this function's number and types.
-/
import Derived.Test.Qxb6609068aRows
import Derived.Test.Qxb6609068aSwZero
import Derived.Test.Qxb6609068aOpen
import Derived.WalkSpells
import Derived.WalkKit
import Derived.ProofKit
import Derived.OpenShut
import Derived.ShutString
import Derived.ChangeOld
import Derived.Below
namespace Go.Proofs.Qxb6609068a.fnSweepRingsGroupsSortsAndBounds
open Small Go.ChangeShapes Go.WideShapes Go.ChangeAt Go.RowKit Go.Deep
set_option linter.unusedVariables false

theorem own : ownKnob Try.prog.godebug = none := by kernel_rfl
theorem laidOut : laidOutB Try.prog = true := by kernel_rfl

theorem in_of {x : Int} (h : (Lit.int .i64 x).wf = true) : InI x := by
  simp only [Lit.wf, IntKind.min, IntKind.max, IntKind.signed, IntKind.bits, Bool.and_eq_true, decide_eq_true_eq, if_true] at h
  unfold InI
  omega

/-- the segments that come in; their coordinates are int64s -/
def SegRowI (w : World) (a : Option Addr) (n : Nat) : Prop := 0 < n → ∃ (b o : Nat) (s : Segs), a = some ⟨b, o, none⟩ ∧ (∀ k, k < n → SegAt w b o s k) ∧ ∀ k, k < n → InI (s.ax k) ∧ InI (s.ay k) ∧ InI (s.bx k) ∧ InI (s.by' k)

theorem open_segsI {H : Type} {enc : TypeId × Value → H} {w : World} {base fuel len cap : Nat} {spare : Nat → Bool} {held : Bool} {a : Option Addr} {x : DataW H × List MemPlace} (h : DataW.trod enc Try.prog w base spare held fuel 29 [.slice a len cap] = some x) :
    len ≤ cap ∧ cap ≤ maxLen ∧ SegRowI w a len := by
  obtain ⟨h1, h2, h3⟩ := open_row Try.underlying29 Try.underlying35 (hone_of (by kernel_rfl)) (by kernel_rfl) (by decide) h
  refine ⟨h1, h2, fun hp => ?_⟩
  obtain ⟨b, o, V, rfl, hV⟩ := h3 hp
  have ki : ∀ (k i : Nat) (f : Field) (e : IntKind) , (∃ n y, DataW.trod enc Try.prog w base spare held n f.type [V k i] = some y) → Try.prog.underlying f.type = some (.int e) → V k i = .int e (intIn (V k i)) ∧ (Lit.int e (intIn (V k i))).wf = true := by
    intro k i f e ⟨n, y, hy⟩ ht
    obtain ⟨m, hm, _, hw⟩ := DataW.trod_int ht hy
    simp only [List.cons.injEq, and_true] at hm
    rw [hm]; exact ⟨rfl, hw⟩
  have kf : ∀ (k i : Nat) (f : Field) (e : FloatKind) , (∃ n y, DataW.trod enc Try.prog w base spare held n f.type [V k i] = some y) → Try.prog.underlying f.type = some (.float e) → V k i = .float e (floatIn (V k i)) := by
    intro k i f e ⟨n, y, hy⟩ ht
    obtain ⟨m, hm⟩ := trod_float ht hy
    rw [hm]; rfl
  refine ⟨b, o, ⟨fun k => intIn (V k 0), fun k => intIn (V k 1), fun k => intIn (V k 2), fun k => intIn (V k 3), fun k => intIn (V k 4), fun k => intIn (V k 5), fun k => floatIn (V k 6), fun k => floatIn (V k 7)⟩, rfl, fun k hk => ?_, fun k hk => ?_⟩
  · have key := hV k hk
    have k0 := key 0 _ rfl
    have k1 := key 1 _ rfl
    have k2 := key 2 _ rfl
    have k3 := key 3 _ rfl
    have k4 := key 4 _ rfl
    have k5 := key 5 _ rfl
    have k6 := key 6 _ rfl
    have k7 := key 7 _ rfl
    unfold SegAt
    refine ⟨?_, ?_, ?_, ?_, ?_, ?_, ?_, ?_⟩
    · rw [← (ki k 0 _ .i64 k0.2 Try.underlying2).1]; exact k0.1
    · rw [← (ki k 1 _ .i64 k1.2 Try.underlying2).1]; exact k1.1
    · rw [← (ki k 2 _ .i64 k2.2 Try.underlying2).1]; exact k2.1
    · rw [← (ki k 3 _ .i64 k3.2 Try.underlying2).1]; exact k3.1
    · rw [← (ki k 4 _ .i64 k4.2 Try.underlying3).1]; exact k4.1
    · rw [← (ki k 5 _ .i64 k5.2 Try.underlying3).1]; exact k5.1
    · rw [← kf k 6 _ .f64 k6.2 Try.underlying33]; exact k6.1
    · rw [← kf k 7 _ .f64 k7.2 Try.underlying33]; exact k7.1
  · have key := hV k hk
    have k0 := key 0 _ rfl
    have k1 := key 1 _ rfl
    have k2 := key 2 _ rfl
    have k3 := key 3 _ rfl
    exact ⟨in_of (ki k 0 _ .i64 k0.2 Try.underlying2).2, in_of (ki k 1 _ .i64 k1.2 Try.underlying2).2, in_of (ki k 2 _ .i64 k2.2 Try.underlying2).2, in_of (ki k 3 _ .i64 k3.2 Try.underlying2).2⟩

/-- the first ring number that is out of its bounds, if there is one -/
theorem first_bad (rg : Nat → Int) : ∀ n, (∀ k, k < n → 0 ≤ rg k ∧ rg k < 65536) ∨ ∃ f, f < n ∧ (∀ k, k < f → 0 ≤ rg k ∧ rg k < 65536) ∧ (rg f < 0 ∨ 65536 ≤ rg f)
  | 0 => .inl fun k h => absurd h (Nat.not_lt_zero _)
  | n + 1 => by
    rcases first_bad rg n with h | ⟨f, h1, h2, h3⟩
    · by_cases hb : 0 ≤ rg n ∧ rg n < 65536
      · refine .inl fun k hk => ?_
        by_cases e : k = n
        · rw [e]; exact hb
        · exact h k (by omega)
      · exact .inr ⟨n, by omega, h, by omega⟩
    · exact .inr ⟨f, by omega, h2, h3⟩

theorem walk (a0 : Option Addr) (n c : Nat) (w : World) (k1 : n ≤ c ∧ c ≤ maxLen ∧ SegRowI w a0 n) :
    Calls Try.prog 7 #[.slice a0 n c] w fun e w' => e = .returned (.bool true) ∧ Below w.heap.size w w' := by
  obtain ⟨h1, h2, hs⟩ := k1
  unfold maxLen at h2
  by_cases hA : 8192 < n
  · exact sweep_long _ _ _ _ (by omega) hA
  rcases Nat.eq_zero_or_pos n with h0 | h0
  · subst h0
    exact sweep_zero _ _ _
  obtain ⟨b, o, s, rfl, hs', hi⟩ := hs h0
  rcases first_bad s.rg n with hg | ⟨f, hf, hg, hb⟩
  · exact sweep_in b o n c s w (by omega) hs' hg hi
  · exact sweep_out b o n c f s w (by omega) hs' hf hg hb

/-! ### THE ROW's STEP -/
set_option maxRecDepth 100000 in
theorem lifted (os : Os) (started : os.Started) (H : Type) (enc : TypeId × Value → H) :
    ReturnsInHanded {} Try.checked os 7 .any (Rows.fnSweepRingsGroupsSortsAndBoundsSpec.pre6 enc Try.prog Try.f7 Rows.fnSweepRingsGroupsSortsAndBoundsRow.domain false) (Rows.fnSweepRingsGroupsSortsAndBoundsSpec.post enc Try.prog Try.f7 false true false false) := by
  refine returnsInHanded_of_change (C := Try.checked) own started (by kernel_rfl) Try.func7
    (ChangeSpec.witness6 (enc := enc) (C := Try.checked) false ⟨#[], #[.slice none 0 0], []⟩ 8 (by kernel_rfl) (by kernel_rfl) (by kernel_rfl) (by kernel_rfl)) ?_
  intro W base args ds gs before hval0 hW hcnd _
  have hval : ∀ (j : Nat) t v, Try.f7.params[j]? = some t → args[j]? = some v → Value.okWide Try.prog W .any base t v := hval0
  have hW' := hW
  obtain ⟨p, q, hA0, hV, rfl, hfz, hnd⟩ := hW
  have hA : DataW.TrodAll enc Try.prog W 0 (fun _ => true) true Try.f7.params.toList args.toList ds p := hA0
  rw [Try.params7] at hA hval
  obtain ⟨v0, vs0, d0, ds0, p0, q0, hargs, rfl, rfl, h0, r0⟩ := trodAll_cons hA
  obtain ⟨rfl, rfl, rfl⟩ := trodAll_nil r0
  obtain rfl : args = #[v0] := by cases args; simp_all
  obtain ⟨rfl, rfl⟩ := trodVars_none hV
  obtain ⟨a0, n0, c0, rfl⟩ := okWide_slice Try.underlying29 (hval 0 29 v0 rfl rfl)
  have k0 := h0
  have lt0 : ∀ x ∈ p0, x.block < W.heap.size := by obtain ⟨m, hm⟩ := k0; exact DataW.trod_lt m _ _ _ hm
  have w0 : n0 ≤ c0 ∧ c0 ≤ maxLen ∧ SegRowI W a0 n0 := by
    obtain ⟨fuel, hf⟩ := h0
    exact open_segsI hf
  clear hA0 hval0
  refine (walk a0 n0 c0 W w0).mono fun e W' ⟨he, bel⟩ => ?_
  subst he
  exact ⟨_, rfl, _, _, _, [], _, [], hW', trodAll_mk1 (shut_bool Try.underlying4 _), (trodAll_cons_mk (Below.trod laidOut (by kernel_rfl) (of_decide_eq_true (by kernel_rfl)) k0 bel lt0) trodAll_mk0), rfl, bel.frame _, fun h => by cases h⟩

theorem over : Rows.fnSweepRingsGroupsSortsAndBoundsRow.holds Try.pinned (OpenSpec.ofChange Rows.fnSweepRingsGroupsSortsAndBoundsSpec) :=
  OpenClaim.holds_of_wide 7 Try.f7 rfl rfl rfl rfl rfl rfl rfl ⟨rfl, rfl, rfl, rfl, rfl⟩ rfl rfl rfl rfl rfl (by kernel_rfl) Try.func7 (by kernel_rfl)
    (of_decide_eq_true (by kernel_rfl)) (by unfold Func.isWrapper; first | (rw [if_pos (by decide +kernel)]; kernel_rfl) | (rw [if_neg (by decide +kernel)]; exact ⟨rfl, rfl⟩))
    (fun os started H enc _ => lifted os started H enc)

/-- THE STATEMENT -/
theorem proved : Rows.FnSweepRingsGroupsSortsAndBoundsSaid := over
end Go.Proofs.Qxb6609068a.fnSweepRingsGroupsSortsAndBounds
