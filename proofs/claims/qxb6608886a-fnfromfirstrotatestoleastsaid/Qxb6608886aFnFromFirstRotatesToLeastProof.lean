/-
  'Rows.FnFromFirstRotatesToLeastSaid': the walk of the law over the contracts of Qxb6608886aSmall; the frame is the guide's template at this function's number and types.
-/
import Derived.Test.Qxb6608886aRows
import Derived.Test.Qxb6608886aSmall
import Derived.Laws.CopyOwn
import Derived.WalkSpells
import Derived.WalkKit
import Derived.ProofKit
import Derived.OpenShut
import Derived.ShutString
import Derived.ChangeOld
import Derived.Below
namespace Go.Proofs.Qxb6608886a.fnFromFirstRotatesToLeast
open Small Go.ChangeShapes Go.WideShapes Go.ChangeAt Go.RowKit
open Go.ChangeMaps (open_string shut_string)
set_option linter.unusedVariables false

theorem own : ownKnob Try.prog.godebug = none := by kernel_rfl
theorem laidOut : laidOutB Try.prog = true := by kernel_rfl

/-- WHAT THE WALK IS TOLD OF A SLICE OF INTEGERS THAT CAME IN: it is nil; or it leads to a row of 'cap' cells, the numbers 'zs' (the first 'len' are its elements, the rest its spare room), each fitting its kind. -/
def IsRow (k : IntKind) (w : World) (a : Option Addr) (len cap : Nat) (zs : List Int) : Prop :=
  (a = none ∧ len = 0 ∧ cap = 0 ∧ zs = []) ∨
  ∃ x, a = some x ∧ len ≤ cap ∧ cap ≤ maxLen ∧ zs.length = cap ∧ (∀ i, i < zs.length → w.cell? (x.add i) = some (.int k (zs.getD i 0))) ∧ ∀ n ∈ zs, (Lit.int k n).wf = true

/-! ### THE WALK -/
theorem walk_nil (a1 : Int) (w : World) : Calls Try.prog 3 #[.slice none 0 0, .int .i64 a1] w fun e w' => e = .returned (.bool true) ∧ Below w.heap.size w w' := by
  have hnil := fun wx => run_neq_slice_nil_any (P := Try.prog) wx 22 3 none 0 0 0 0 Try.underlying22
  go_enter Try.func3, Try.ntmps3
  go_wp2_with (first
    | (go_at_call 6; refine (zzBytes_yes _ _ _ _ _ (by omega)).mono ?_; rintro e w' ⟨rfl, rfl⟩)
    | (go_at_call 7; refine (last_nil _ _).mono ?_; rintro e w' ⟨rfl, rfl⟩))
  go_ret
  exact ⟨rfl, Below.refl _ _⟩

theorem walk_long (x : Addr) (len0 cap0 : Nat) (a1 : Int) (w : World) (h : 1048576 < len0) (h' : len0 ≤ 9223372036854775807) : Calls Try.prog 3 #[.slice (some x) len0 cap0, .int .i64 a1] w fun e w' => e = .returned (.bool true) ∧ Below w.heap.size w w' := by
  go_enter Try.func3, Try.ntmps3
  go_wp2_with (go_at_call 6; refine (zzBytes_no _ _ _ _ _ h h').mono ?_; rintro e w' ⟨rfl, rfl⟩)
  go_ret
  exact ⟨rfl, Below.refl _ _⟩

theorem walk_mid (x : Addr) (len0 cap0 : Nat) (a1 : Int) (w : World) (h : 65536 < len0) (h' : len0 ≤ 1048576) : Calls Try.prog 3 #[.slice (some x) len0 cap0, .int .i64 a1] w fun e w' => e = .returned (.bool true) ∧ Below w.heap.size w w' := by
  go_enter Try.func3, Try.ntmps3
  go_wp2_with (go_at_call 6; refine (zzBytes_yes _ _ _ _ _ h').mono ?_; rintro e w' ⟨rfl, rfl⟩)
  go_ret
  exact ⟨rfl, Below.refl _ _⟩

theorem cell_on {w w' : World} {a : Addr} {v : Value} (hb : Below w.heap.size w w') (h : w.cell? a = some v) : w'.cell? a = some v := by
  have hlt : a.block < w.heap.size := by
    rcases Nat.lt_or_ge a.block w.heap.size with h' | h'
    · exact h'
    · simp [World.cell?, Array.getElem?_eq_none h'] at h
  rw [hb.cell hlt, h]

theorem min_start (z : Nat → Int) (p : Nat) : (∃ i, i < p + 1 - p ∧ z p = z (p + i)) ∧ ∀ i, i < p + 1 - p → z p ≤ z (p + i) := by
  refine ⟨⟨0, by omega, rfl⟩, fun i hi => ?_⟩
  obtain rfl : i = 0 := by omega
  exact Int.le_refl _

theorem min_new {z : Nat → Int} {p q : Nat} {u : Int} (h : (∃ i, i < q - p ∧ u = z (p + i)) ∧ ∀ i, i < q - p → u ≤ z (p + i)) (hq : p + 1 ≤ q) (hlt : z q < u) :
    (∃ i, i < q + 1 - p ∧ z q = z (p + i)) ∧ ∀ i, i < q + 1 - p → z q ≤ z (p + i) := by
  refine ⟨⟨q - p, by omega, by congr 1; omega⟩, fun i hi => ?_⟩
  by_cases e : i < q - p
  · have := h.2 i e; omega
  · have : p + i = q := by omega
    rw [this]; exact Int.le_refl _

theorem min_old {z : Nat → Int} {p q : Nat} {u : Int} (h : (∃ i, i < q - p ∧ u = z (p + i)) ∧ ∀ i, i < q - p → u ≤ z (p + i)) (hq : p + 1 ≤ q) (hge : u ≤ z q) :
    (∃ i, i < q + 1 - p ∧ u = z (p + i)) ∧ ∀ i, i < q + 1 - p → u ≤ z (p + i) := by
  obtain ⟨⟨i0, h1, h2⟩, h3⟩ := h
  refine ⟨⟨i0, by omega, h2⟩, fun i hi => ?_⟩
  by_cases e : i < q - p
  · exact h3 i e
  · have : p + i = q := by omega
    rw [this]; exact hge

theorem min_is {z : Nat → Int} {p q f : Nat} {u : Int} (h : (∃ i, i < q - p ∧ u = z (p + i)) ∧ ∀ i, i < q - p → u ≤ z (p + i)) (hl : Least (fun i => z (p + i)) (q - p) f) (hf : f < q - p) : u = z (p + f) := by
  obtain ⟨⟨i0, h1, h2⟩, h3⟩ := h
  have a := h3 f hf
  have b := hl.2.2 i0 h1
  simp only at b
  omega

set_option maxHeartbeats 1000000 in
theorem walk_row (x : Addr) (n cap0 : Nat) (zs : List Int) (a1 : Int) (w : World) (hn : n ≤ 65536) (hz : n ≤ zs.length) (hcell : ∀ i, i < zs.length → w.cell? (x.add i) = some (.int .i64 (zs.getD i 0))) : Calls Try.prog 3 #[.slice (some x) n cap0, .int .i64 a1] w fun e w' => e = .returned (.bool true) ∧ Below w.heap.size w w' := by
  obtain ⟨i0, hi, hz0, hz1, hz2⟩ := info_parts info3
  have hnil := fun wx => run_neq_slice_nil_any (P := Try.prog) wx 22 3 (some x) n cap0 0 0 Try.underlying22
  have HC : Hid (∀ i, i < zs.length → w.cell? (x.add i) = some (.int .i64 (zs.getD i 0))) := hcell
  clear hcell
  have hdn : decide ((65536 : Int) < (n : Int)) = false := by simp; omega
  go_enter Try.func3, Try.ntmps3
  go_wp2_with (first
    | (go_at_call 6; refine (zzBytes_yes _ _ _ _ _ (by omega)).mono ?_; rintro e w' ⟨rfl, hw⟩; subst w')
    | (at_make; refine wpList_make_full _ rfl _ _ 22 rfl w.heap.size 3 i0 (.int .i64 0) 1 Try.underlying22 hi hz0 hz1 _ _ _ _ n rfl rfl rfl rfl (by rw [hz2]; omega) (by unfold maxLen; omega) (Nat.le_refl _) ?_; intro w1 hown1 hgrow1; obtain ⟨cur, hcur, hlen⟩ := own_block hown1; have hB1 := (Below.refl w.heap.size w).grown hgrow1 (Nat.le_refl _) (by intro k hk; cases hk); have HN := src_cells hz HC.out hB1; clear hown1 hgrow1)
    | (have _t := hcur; refine wpList_copy_splice rfl (.tmp 26) (.tmp 27) 22 22 rfl 3 Try.underlying22 size3 _ _ _ _ _ _ rfl rfl w.heap.size 0 cur 3 hcur (news (fun i => zs.getD i 0) 0 n) (by simp [news]) (fun _ => ⟨rfl, x, rfl, HN⟩) (by simp [news, hlen]) (news_one _ _ _) w.heap.size w hB1 (Nat.le_refl _) ?_; intro w2 HG2 hB2; clear hcur HN))
  have hR2 := row_spliced hlen HG2.out
  clear HG2 hB1 HC hnil
  generalize hzf : (fun i => zs.getD i 0) = z at hR2
  clear hzf hlen
  refine (last_is w.heap.size n z a1 w2 hn hR2).mono ?_
  rintro e w' ⟨r, rfl, hlast, hw⟩
  subst w'
  have HR2 : Hid (Row w2 w.heap.size n z) := hR2
  clear hR2
  rcases hlast with ⟨rfl, _⟩ | ⟨p, rfl, hp, hj, hafter⟩
  · go_wp2
    go_ret
    exact ⟨rfl, hB2⟩
  have HJ : Hid (z p = a1) := hj
  have HA : Hid (∀ i, p < i → i < n → z i ≠ a1) := hafter
  clear hj hafter
  have hdp : decide ((p : Int) < 0) = false := by simp
  go_wp2_with fail
  refine (zzfrom_is w.heap.size n z a1 p w2 hn HR2.out hp HJ.out HA.out).mono ?_
  rintro e w3 ⟨f, g, cap, rfl, hleast, hg, hcells, hB3⟩
  have HR3 : Hid (Row w3 w.heap.size n z) := row_below HR2.out hB3
  have HS : Hid (∀ i, i < n - p → w3.cell? ⟨g, i, none⟩ = some (.int .i64 (z (p + (if f + i < n - p then f + i else f + i - (n - p)))))) := hcells
  have HF : Hid (Least (fun i => z (p + i)) (n - p) f) := hleast
  have hf : f < n - p := by rcases hleast.1 with h | h <;> omega
  have hB : Below w.heap.size w w3 := hB2.trans (hB3.mono hB2.size)
  clear hleast hcells HA HJ HR2
  have hlen' : ((((n - p : Nat) : Int)) != (n : Int) - (p : Int)) = false := by simp; omega
  have hcp := HR3.out p hp
  go_wp2
  clear hcp hlen' hdn hdp
  -- the least of the stretch
  go_loop [9, 10] (fun v k => ∃ (u : Int) (q : Nat), v = .int .i64 u ∧ k = .int .i64 q ∧ p + 1 ≤ q ∧ q ≤ n ∧ Hid ((∃ i, i < q - p ∧ u = z (p + i)) ∧ ∀ i, i < q - p → u ≤ z (p + i))) (fun _ k => n - (intOf k).toNat)
  case atStart => exact ⟨z p, p + 1, rfl, by go_num, by omega, by omega, min_start z p⟩
  case round =>
    obtain ⟨u, q, rfl, rfl, h1, h2, H⟩ := hrel
    by_cases hq : q < n
    · have hcell := HR3.out q hq
      by_cases hlt : z q < u
      · go_wp2
        go_round
        case rel => exact ⟨z q, q + 1, rfl, by go_num, by omega, by omega, min_new H.out h1 hlt⟩
        case measure => simp [intOf]; omega
      · go_wp2
        go_round
        case rel => exact ⟨u, q + 1, rfl, by go_num, by omega, by omega, min_old H.out h1 (by omega)⟩
        case measure => simp [intOf]; omega
    obtain rfl : q = n := by omega
    have hu : u = z (p + f) := min_is H.out HF.out hf
    subst hu
    clear H
    go_wp2
    go_loop [11] (fun v => ∃ q : Nat, v = .int .i64 q ∧ q ≤ f) (fun v => f - (intOf v).toNat)
    case atStart => exact ⟨0, rfl, by omega⟩
    case round =>
      obtain ⟨s, rfl, hs⟩ := hrel
      have hcell := HR3.out (p + s) (by omega)
      by_cases hsf : s < f
      · have ht : (z (p + s) != z (p + f)) = true := by
          have := HF.out.2.1 s hsf
          simp at this ⊢; omega
        go_wp2
        go_round
        case rel => exact ⟨s + 1, by go_num, by omega⟩
        case measure => simp [intOf]; omega
      obtain rfl : s = f := by omega
      have ht : (z (p + s) != z (p + s)) = false := by simp
      go_wp2
      clear hcell ht
      go_loopw [12] (fun v wr => ∃ i : Nat, v = .int .i64 i ∧ i ≤ q - p ∧ Hid (Below w3.heap.size w3 wr)) (fun v _ => q - p - (intOf v).toNat)
      case atStart => exact ⟨0, rfl, by omega, Below.refl _ _⟩
      case round =>
        obtain ⟨i, rfl, hi, HB⟩ := hrel
        by_cases hlt : i < q - p
        · by_cases hw : s + i < q - p
          · have c1 : wr.cell? ⟨g, i, none⟩ = some (.int .i64 (z (p + (s + i)))) := cell_on HB.out (by have := HS.out i hlt; rwa [if_pos hw] at this)
            have c2 : wr.cell? ⟨w.heap.size, p + (s + i), none⟩ = some (.int .i64 (z (p + (s + i)))) := cell_on HB.out (HR3.out _ (by omega))
            have ht : (z (p + (s + i)) != z (p + (s + i))) = false := by simp
            go_wp2
            go_region
            all_goals
              go_wp2
              go_roundw
              case rel => exact ⟨i + 1, by go_num, by omega, HB.out.drew⟩
              case measure => simp [intOf]; omega
          · have c1 : wr.cell? ⟨g, i, none⟩ = some (.int .i64 (z (p + (s + i - (q - p))))) := cell_on HB.out (by have := HS.out i hlt; rwa [if_neg hw] at this)
            have c2 : wr.cell? ⟨w.heap.size, p + (s + i - (q - p)), none⟩ = some (.int .i64 (z (p + (s + i - (q - p))))) := cell_on HB.out (HR3.out _ (by omega))
            have ht : (z (p + (s + i - (q - p))) != z (p + (s + i - (q - p)))) = false := by simp
            go_wp2
            go_region
            all_goals
              go_wp2
              go_roundw
              case rel => exact ⟨i + 1, by go_num, by omega, HB.out.drew⟩
              case measure => simp [intOf]; omega
        · go_wp2
          go_ret
          exact ⟨rfl, hB.trans (HB.out.mono hB.size)⟩

theorem walk (a0 : Option Addr) (len0 cap0 : Nat) (z0 : List Int) (a1 : Int) (w : World) (w0 : IsRow .i64 w a0 len0 cap0 z0) (w1 : (Lit.int .i64 a1).wf = true) :
    Calls Try.prog 3 #[.slice a0 len0 cap0, .int .i64 a1] w fun e w' => e = .returned (.bool true) ∧ Below w.heap.size w w' := by
  rcases w0 with ⟨rfl, rfl, rfl, rfl⟩ | ⟨x, rfl, h1, h2, h3, h4, _⟩
  · exact walk_nil _ _
  unfold maxLen at h2
  by_cases hA : 1048576 < len0
  · exact walk_long _ _ _ _ _ hA (by omega)
  by_cases hB : 65536 < len0
  · exact walk_mid _ _ _ _ _ hB (by omega)
  · exact walk_row x len0 cap0 z0 a1 w (by omega) (by omega) h4

/-! ### THE ROW's STEP: WRITTEN OUT: LEAVE IT -/
set_option maxRecDepth 100000 in
theorem lifted (os : Os) (started : os.Started) (H : Type) (enc : TypeId × Value → H) :
    ReturnsInHanded {} Try.checked os 3 .any (Rows.fnFromFirstRotatesToLeastSpec.pre6 enc Try.prog Try.f3 Rows.fnFromFirstRotatesToLeastRow.domain false) (Rows.fnFromFirstRotatesToLeastSpec.post enc Try.prog Try.f3 false true false false) := by
  refine returnsInHanded_of_change (C := Try.checked) own started (by kernel_rfl) Try.func3
    (ChangeSpec.witness6 (enc := enc) (C := Try.checked) false ⟨#[], #[.slice none 0 0, .int .i64 0], []⟩ 8 (by kernel_rfl) (by kernel_rfl) (by kernel_rfl) (by kernel_rfl)) ?_
  intro W base args ds gs before hval0 hW hcnd _
  have hval : ∀ (j : Nat) t v, Try.f3.params[j]? = some t → args[j]? = some v → Value.okWide Try.prog W .any base t v := hval0
  have hW' := hW
  obtain ⟨p, q, hA0, hV, rfl, hfz, hnd⟩ := hW
  have hA : DataW.TrodAll enc Try.prog W 0 (fun _ => true) true Try.f3.params.toList args.toList ds p := hA0
  rw [Try.params3] at hA hval
  obtain ⟨v0, vs0, d0, ds0, p0, q0, hargs, rfl, rfl, h0, r0⟩ := trodAll_cons hA
  obtain ⟨v1, vs1, d1, ds1, p1, q1, rfl, rfl, rfl, h1, r1⟩ := trodAll_cons r0
  obtain ⟨rfl, rfl, rfl⟩ := trodAll_nil r1
  obtain rfl : args = #[v0, v1] := by cases args; simp_all
  obtain ⟨rfl, rfl⟩ := trodVars_none hV
  obtain ⟨a0, len0, cap0, rfl⟩ := okWide_slice Try.underlying22 (hval 0 22 v0 rfl rfl)
  have k0 := h0
  have lt0 : ∀ x ∈ p0, x.block < W.heap.size := by obtain ⟨m, hm⟩ := k0; exact DataW.trod_lt m _ _ _ hm
  obtain ⟨z0, w0⟩ : ∃ zs, IsRow .i64 W a0 len0 cap0 zs := by
    obtain ⟨fuel, hf⟩ := h0
    rcases open_ints Try.underlying22 Try.underlying3 (by kernel_rfl) hf with ⟨hcs, _⟩ | ⟨x, l, c, zs, hcs, _, hl, hm, hz, _, hcell, hwz⟩
    · simp [Value.cells] at hcs
      obtain ⟨rfl, rfl, rfl⟩ := hcs
      exact ⟨[], .inl ⟨rfl, rfl, rfl, rfl⟩⟩
    · simp [Value.cells] at hcs
      obtain ⟨rfl, rfl, rfl⟩ := hcs
      exact ⟨zs, .inr ⟨_, rfl, hl, hm, by simpa using hz, hcell, hwz⟩⟩
  obtain ⟨a1, rfl, rfl, rfl, w1⟩ := open_int Try.underlying3 (hval 1 3 v1 rfl rfl) h1
  clear hA0 hval0
  refine (walk a0 len0 cap0 z0 a1 W w0 w1).mono fun e W' ⟨he, bel⟩ => ?_
  subst he
  exact ⟨_, rfl, _, _, _, [], _, [], hW', trodAll_mk1 (shut_bool Try.underlying4 _), (trodAll_cons_mk (Below.trod laidOut (by kernel_rfl) (of_decide_eq_true (by kernel_rfl)) k0 bel lt0) (trodAll_cons_mk (shut_int Try.underlying3 w1) trodAll_mk0)), rfl, bel.frame _, fun h => by cases h⟩

theorem over : Rows.fnFromFirstRotatesToLeastRow.holds Try.pinned (OpenSpec.ofChange Rows.fnFromFirstRotatesToLeastSpec) :=
  OpenClaim.holds_of_wide 3 Try.f3 rfl rfl rfl rfl rfl rfl rfl ⟨rfl, rfl, rfl, rfl, rfl⟩ rfl rfl rfl rfl rfl (by kernel_rfl) Try.func3 (by kernel_rfl)
    (of_decide_eq_true (by kernel_rfl)) (by unfold Func.isWrapper; first | (rw [if_pos (by decide +kernel)]; kernel_rfl) | (rw [if_neg (by decide +kernel)]; exact ⟨rfl, rfl⟩))
    (fun os started H enc _ => lifted os started H enc)

/-- THE STATEMENT -/
theorem proved : Rows.FnFromFirstRotatesToLeastSaid := over
end Go.Proofs.Qxb6608886a.fnFromFirstRotatesToLeast
