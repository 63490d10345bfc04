/-
  CONTRACTS of zzBytes, lastIndexInt, fromFirst over a row of the call's own.
-/
import Derived.Test.Qxb6608886aRows
import Derived.WalkKit
import Derived.ProofKit
import Derived.OpenShut
import Derived.ShutString
import Derived.Deep.Light
import Derived.Laws.CopyOwn
import Derived.Laws.Rows
import Derived.Test.Qxb6608886aLaw
namespace Go.Proofs.Qxb6608886a.Small
open Go.ChangeShapes Go.WideShapes Go.ChangeAt Go.RowKit
open Go.ChangeMaps (open_string shut_string)

theorem ret_bool {a b : Bool} (h : a = b) : Ending.returned (.bool a) = .returned (.bool b) := by rw [h]
theorem ret_int {k : IntKind} {a b : Int} (h : a = b) : Ending.returned (.int k a) = .returned (.int k b) := by rw [h]

/-- n cells of block b, from its head on, hold the numbers z 0, z 1, .. -/
def Row (w : World) (b n : Nat) (z : Nat → Int) : Prop := ∀ i, i < n → w.cell? ⟨b, i, none⟩ = some (.int .i64 (z i))

theorem zzBytes_yes (a : Option Addr) (n c : Nat) (j : Int) (w : World) (h : n ≤ 1048576) :
    Calls Try.prog 6 #[.slice a n c, .int .i64 j] w fun e w' => e = .returned (.bool true) ∧ w' = w := by
  go_enter Try.func6, Try.ntmps6
  go_wp2
  go_ret
  exact ⟨rfl, rfl⟩

theorem zzBytes_no (a : Option Addr) (n c : Nat) (j : Int) (w : World) (h : 1048576 < n) (_h : n ≤ 9223372036854775807) :
    Calls Try.prog 6 #[.slice a n c, .int .i64 j] w fun e w' => e = .returned (.bool false) ∧ w' = w := by
  go_enter Try.func6, Try.ntmps6
  go_wp2
  go_ret
  exact ⟨rfl, rfl⟩

/-- r is the last place of j among the first n numbers; -1 where it isn't among them -/
def Last (z : Nat → Int) (n : Nat) (j r : Int) : Prop := (r = -1 ∧ ∀ i, i < n → z i ≠ j) ∨ ∃ k : Nat, r = k ∧ k < n ∧ z k = j ∧ ∀ i, k < i → i < n → z i ≠ j

theorem last_nil (j : Int) (w : World) :
    Calls Try.prog 7 #[.slice none 0 0, .int .i64 j] w fun e w' => e = .returned (.int .i64 (-1)) ∧ w' = w := by
  go_enter Try.func7, Try.ntmps7
  go_wp2
  go_loop [5] (fun i => i = .int .i64 (-1)) (fun _ => 0)
  case atStart => rfl
  case round =>
    subst hrel
    go_wp2
    go_ret
    exact ⟨rfl, rfl⟩

theorem last_is (b n : Nat) (z : Nat → Int) (j : Int) (w : World) (hn : n ≤ 65536) (hrow : Row w b n z) :
    Calls Try.prog 7 #[.slice (some ⟨b, 0, none⟩) n n, .int .i64 j] w fun e w' => ∃ r : Int, e = .returned (.int .i64 r) ∧ Last z n j r ∧ w' = w := by
  have HR : Hid (Row w b n z) := hrow
  clear hrow
  go_enter Try.func7, Try.ntmps7
  go_wp2
  go_loop [5] (fun i => ∃ m : Int, -1 ≤ m ∧ m < n ∧ i = .int .i64 m ∧ Hid (∀ q : Nat, m < q → q < n → z q ≠ j)) (fun i => (intOf i + 1).toNat)
  case atStart => exact ⟨_, by omega, by omega, rfl, fun q h1 h2 => by omega⟩
  case round =>
    obtain ⟨m, h1, h2, rfl, H⟩ := hrel
    by_cases hm : m < 0
    · go_wp2
      go_ret
      exact ⟨-1, rfl, .inl ⟨rfl, fun i hi => H.out i (by omega) hi⟩, rfl⟩
    · obtain ⟨k, rfl⟩ := Int.eq_ofNat_of_zero_le (by omega : 0 ≤ m)
      have hk : k < n := by omega
      have hcell := HR.out k hk
      cases ht : (z k == j)
      · go_wp2
        go_round
        case rel =>
          go_light
          refine ⟨_, by omega, by omega, rfl, fun q q1 q2 => ?_⟩
          by_cases e : q = k
          · subst e; simpa using ht
          · exact H.out q (by omega) q2
        case measure => simp [intOf]
      · go_wp2
        go_ret
        exact ⟨k, rfl, .inr ⟨k, rfl, hk, by simpa using ht, fun i i1 i2 => H.out i (by omega) i2⟩, rfl⟩

/-- f is the first place of the least among c numbers from 'at' on; told of the first k of them (of one where k is 0) -/
def Least (z : Nat → Int) (k f : Nat) : Prop := (f = 0 ∨ f < k) ∧ (∀ i, i < f → z f < z i) ∧ ∀ i, i < k → z f ≤ z i

theorem least_new {z : Nat → Int} {k q : Nat} (h : Least z k q) (hlt : z k < z q) : Least z (k + 1) k := by
  obtain ⟨h1, h2, h3⟩ := h
  refine ⟨.inr (by omega), fun i hi => ?_, fun i hi => ?_⟩
  · have := h3 i hi; omega
  · by_cases e : i = k
    · subst e; omega
    · have := h3 i (by omega); omega

theorem least_old {z : Nat → Int} {k q : Nat} (h : Least z k q) (hge : z q ≤ z k) : Least z (k + 1) q := by
  obtain ⟨h1, h2, h3⟩ := h
  refine ⟨by omega, h2, fun i hi => ?_⟩
  by_cases e : i = k
  · subst e; omega
  · exact h3 i (by omega)

theorem ret_slice {a : Option Addr} {n n' c : Nat} (h : n = n') : Ending.returned (.slice a n c) = .returned (.slice a n' c) := by rw [h]

theorem info3 : (Try.prog.info? 3).map (fun i => (i.zero, i.size, i.bytes)) = some (some (.int .i64 0), 1, 8) := by kernel_rfl

/-- m numbers from place 'off' on, as cells -/
def news (z : Nat → Int) (off m : Nat) : List Value := (List.range m).map fun i => .int .i64 (z (off + i))

theorem news_len (z : Nat → Int) (off m : Nat) : (news z off m).length = m * 1 := by simp [news]
theorem news_one (z : Nat → Int) (off m : Nat) : ∀ u ∈ news z off m, u.oneCell' = true := by
  intro u hu
  simp only [news, List.mem_map] at hu
  obtain ⟨i, _, rfl⟩ := hu
  rfl
theorem news_get (z : Nat → Int) (off m i : Nat) (h : i < m) : (news z off m)[i]? = some (.int .i64 (z (off + i))) := by
  simp [news, List.getElem?_range h]
theorem add_at (b off j : Nat) : (⟨b, off, none⟩ : Addr).add j = ⟨b, off + j, none⟩ := by
  unfold Addr.add; split <;> simp_all
theorem row_news {w : World} {b n : Nat} {z : Nat → Int} (hR : Row w b n z) (off m : Nat) (h : off + m ≤ n) : ∀ j u, (news z off m)[j]? = some u → w.cell? ((⟨b, off, none⟩ : Addr).add j) = some u := by
  intro j u hu
  have hj : j < m := by
    have := (List.getElem?_eq_some_iff.mp hu).1
    simpa [news] using this
  rw [news_get z off m j hj] at hu
  rw [add_at, hR (off + j) (by omega)]
  exact hu
theorem row_lt {w : World} {b n : Nat} {z : Nat → Int} (hR : Row w b n z) (h : 0 < n) : b < w.heap.size := by
  have := hR 0 h
  rcases Nat.lt_or_ge b w.heap.size with h' | h'
  · exact h'
  · simp [World.cell?, Array.getElem?_eq_none h'] at this
theorem row_below {w w' : World} {b n : Nat} {z : Nat → Int} (hR : Row w b n z) (hb : Below w.heap.size w w') : Row w' b n z := by
  intro i hi
  rw [hb.cell (p := ⟨b, i, none⟩) (row_lt hR (by omega))]
  exact hR i hi

theorem own_empty (w : World) : ((w.alloc (.cells #[] 3)).drew).ownsRow w.heap.size 3 1 (.slice (some ⟨w.heap.size, 0, none⟩) 0 0) 0 [] :=
  ⟨rfl, .inr ⟨w.heap.size, 0, #[], rfl, Nat.le_refl _, (MapKept.heap_alloc w _).1, Nat.le_refl _, Nat.zero_le _, rfl, rfl⟩⟩

/-- what stands in the new row: the two stretches one behind the other -/
theorem two_news {w : World} {B g cap : Nat} {z : Nat → Int} {p c f : Nat} (hf : f ≤ c) (h : w.ownsRow B 3 1 (.slice (some ⟨g, 0, none⟩) (c - f + f) cap) (c - f + f) (news z (p + f) (c - f) ++ news z p f)) :
    ∀ i, i < c → w.cell? ⟨g, i, none⟩ = some (.int .i64 (z (p + (if f + i < c then f + i else f + i - c)))) := by
  intro i hi
  have hc := h.cells (g := g) rfl i
  rw [add_at, Nat.zero_add] at hc
  apply hc
  by_cases h1 : f + i < c
  · rw [List.getElem?_append_left (by simp [news]; omega), news_get _ _ _ _ (by omega), if_pos h1, Nat.add_assoc]
  · rw [List.getElem?_append_right (by simp [news]; omega), if_neg h1]
    have e : i - (news z (p + f) (c - f)).length = f + i - c := by simp [news]; omega
    rw [e, news_get _ _ _ _ (by omega)]

set_option maxHeartbeats 400000 in
theorem from_is (b n : Nat) (z : Nat → Int) (j : Int) (p : Nat) (w : World) (hn : n ≤ 65536) (hrow : Row w b n z) (hp : p < n) (hj : z p = j) (hl : ∀ i, p < i → i < n → z i ≠ j) :
    Calls Try.prog 14 #[.slice (some ⟨b, 0, none⟩) n n, .int .i64 j] w fun e w' => ∃ f g cap, e = .returned (.slice (some ⟨g, 0, none⟩) (n - p) cap) ∧ Least (fun i => z (p + i)) (n - p) f ∧ w.heap.size ≤ g ∧
      (∀ i, i < n - p → w'.cell? ⟨g, i, none⟩ = some (.int .i64 (z (p + (if f + i < n - p then f + i else f + i - (n - p)))))) ∧ Below w.heap.size w w' := by
  have HR : Hid (Row w b n z) := hrow
  have HJ : Hid (z p = j) := hj
  have HL : Hid (∀ i, p < i → i < n → z i ≠ j) := hl
  clear hrow hj hl
  obtain ⟨i0, hi, hz0, hz1, hz2⟩ := info_parts info3
  go_enter Try.func14, Try.ntmps14
  go_wp2
  go_loop [5] (fun i => ∃ m : Nat, p ≤ m ∧ m < n ∧ i = .int .i64 m) (fun i => (intOf i).toNat)
  case atStart => exact ⟨n - 1, by omega, by omega, by go_num⟩
  case round =>
    obtain ⟨m, h1, h2, rfl⟩ := hrel
    have hcell := HR.out m h2
    by_cases hm : p < m
    · have ht : (z m != j) = true := by simpa using HL.out m hm h2
      go_wp2
      go_round
      case rel => exact ⟨m - 1, by omega, by omega, by go_num⟩
      case measure => simp [intOf]; omega
    · obtain rfl : m = p := by omega
      have ht : (z m != j) = false := by simpa using HJ.out
      go_wp2
      clear hcell ht
      go_loop [7, 26] (fun f i => ∃ k q : Nat, k ≤ n - m ∧ i = .int .i64 k ∧ f = .int .i64 q ∧ q < n - m ∧ Hid (Least (fun i => z (m + i)) k q)) (fun _ i => n - m - (intOf i).toNat)
      case atStart => exact ⟨0, 0, by omega, rfl, rfl, by omega, .inl rfl, fun i hi => by omega, fun i hi => by omega⟩
      case round =>
        obtain ⟨k, q, h3, rfl, rfl, hq, H⟩ := hrel
        by_cases hk : k < n - m
        · have c1 := HR.out (m + k) (by omega)
          have c2 := HR.out (m + q) (by omega)
          by_cases hlt : z (m + k) < z (m + q)
          · go_wp2
            go_round
            case rel => exact ⟨k + 1, k, by omega, by go_num, rfl, hk, least_new H.out hlt⟩
            case measure => simp [intOf]; omega
          · go_wp2
            go_round
            case rel => exact ⟨k + 1, q, by omega, by go_num, rfl, hq, least_old H.out (by omega)⟩
            case measure => simp [intOf]; omega
        · have hq1 : q ≤ n - m := by omega
          have hq2 : ¬ n - m = q := by omega
          have HR1 : Hid (Row ((w.alloc (.cells #[] 3)).drew) b n z) := row_below HR.out ((Below.refl _ _).alloc (Nat.le_refl _) _).drew
          go_wp2
          go_region_law (first
            | (refine Law.step_append (by rfl) (.tmp 39) (.tmp 42) 22 (by rfl) w.heap.size 3 i0 (.int .i64 0) 1 8 Try.underlying22 hi hz0 hz1 hz2 rfl (by decide) (.slice (some ⟨w.heap.size, 0, none⟩) 0 0) 0 [] (by simp [Act.eval]) (own_empty w) ⟨b, m + q, none⟩ (n - m - q) (n - m - q) (news z (m + q) (n - m - q)) (by simp [Act.eval]) (news_len _ _ _) (row_news HR1.out _ _ (by omega)) (news_one _ _ _) (by omega) (by unfold maxLen; omega) (by omega) (by simp) ?_; intro g1 cap1 w1 hg1 hown1 hgrow1; simp only [Nat.zero_add, List.nil_append] at hown1 ⊢; have hB1 := ((Below.refl w.heap.size w).alloc (Nat.le_refl _) (.cells #[] 3)).drew.grown hgrow1 (by simp) (by intro k hk; simp [Value.ownBlock] at hk; omega); have HR2 : Hid (Row w1 b n z) := row_below HR.out hB1; have hz1' := hB1.size)
            | (refine Law.step_append (by rfl) (.tmp 43) (.tmp 46) 22 (by rfl) w.heap.size 3 i0 (.int .i64 0) 1 8 Try.underlying22 hi hz0 hz1 hz2 rfl (by decide) (.slice (some ⟨g1, 0, none⟩) (n - m - q) cap1) (n - m - q) (news z (m + q) (n - m - q)) (by simp [Act.eval]) hown1 ⟨b, m, none⟩ q (n - m) (news z m q) (by simp [Act.eval]) (news_len _ _ _) (row_news HR2.out _ _ (by omega)) (news_one _ _ _) (by omega) (by unfold maxLen; omega) (by omega) (by omega) ?_; intro g2 cap2 w2 hg2 hown2 hgrow2; have hB2 := hB1.grown hgrow2 (by omega) (by intro k hk; simp [Value.ownBlock] at hk; omega)))
          go_wp2
          go_ret
          refine ⟨q, g2, cap2, ret_slice (by omega), ?_, hg2, two_news hq1 hown2, hB2⟩
          have e : k = n - m := by omega
          rw [← e]
          exact H.out

theorem zzfrom_is (b n : Nat) (z : Nat → Int) (j : Int) (p : Nat) (w : World) (hn : n ≤ 65536) (hrow : Row w b n z) (hp : p < n) (hj : z p = j) (hl : ∀ i, p < i → i < n → z i ≠ j) :
    Calls Try.prog 8 #[.slice (some ⟨b, 0, none⟩) n n, .int .i64 j] w fun e w' => ∃ f g cap, e = .returned (.slice (some ⟨g, 0, none⟩) (n - p) cap) ∧ Least (fun i => z (p + i)) (n - p) f ∧ w.heap.size ≤ g ∧
      (∀ i, i < n - p → w'.cell? ⟨g, i, none⟩ = some (.int .i64 (z (p + (if f + i < n - p then f + i else f + i - (n - p)))))) ∧ Below w.heap.size w w' := by
  have HR : Hid (Row w b n z) := hrow
  have HJ : Hid (z p = j) := hj
  have HL : Hid (∀ i, p < i → i < n → z i ≠ j) := hl
  clear hrow hj hl
  go_enter Try.func8, Try.ntmps8
  go_wp2_with fail
  refine (from_is b n z j p _ hn HR.out hp HJ.out HL.out).mono ?_
  rintro e w' ⟨f, g, cap, rfl, h1, h2, h3, h4⟩
  have H3 : Hid (∀ i, i < n - p → w'.cell? ⟨g, i, none⟩ = some (.int .i64 (z (p + (if f + i < n - p then f + i else f + i - (n - p)))))) := h3
  clear h3
  go_wp2
  go_ret
  exact ⟨f, g, cap, rfl, h1, h2, H3.out, h4⟩

/-! ### the copy -/
theorem size3 : (Try.prog.info? 3).map (·.size) = some 1 := by kernel_rfl

theorem own_block {w : World} {B g n : Nat} {xs : List Value} (h : w.ownsRow B 3 1 (.slice (some ⟨g, 0, none⟩) n n) n xs) : ∃ cur : List Value, w.heap[g]? = some (.cells cur.toArray 3 (0, 0)) ∧ cur.length = n := by
  rcases h.2 with ⟨h0, _⟩ | ⟨g', cap, cur, hv, _, hg, _, _, hs, _⟩
  · cases h0
  · simp only [Value.slice.injEq, Option.some.injEq, Addr.mk.injEq] at hv
    obtain ⟨⟨rfl, _⟩, _, rfl⟩ := hv
    exact ⟨cur.toList, by simpa using hg, by simpa using hs⟩

theorem add_block (x : Addr) (j : Nat) : (x.add j).block = x.block := by
  unfold Addr.add; split <;> rfl

theorem src_cells {w w1 : World} {x : Addr} {zs : List Int} {n : Nat} (hz : n ≤ zs.length) (hcell : ∀ i, i < zs.length → w.cell? (x.add i) = some (.int .i64 (zs.getD i 0))) (hb : Below w.heap.size w w1) :
    ∀ j v, (news (fun i => zs.getD i 0) 0 n)[j]? = some v → w1.cell? (x.add j) = some v := by
  intro j v hv
  have hj : j < n := by
    have := (List.getElem?_eq_some_iff.mp hv).1
    simpa [news] using this
  have hc := hcell j (by omega)
  have hlt : (x.add j).block < w.heap.size := by
    rcases Nat.lt_or_ge (x.add j).block w.heap.size with h' | h'
    · exact h'
    · simp [World.cell?, Array.getElem?_eq_none h'] at hc
  rw [hb.cell hlt, hc, ← hv, news_get _ _ _ _ hj, Nat.zero_add]

theorem row_spliced {w : World} {g n : Nat} {cur : List Value} {z : Nat → Int} (hl : cur.length = n) (h : w.heap[g]? = some (.cells (splice cur 0 (news z 0 n)).toArray 3 (0, 0))) : Row w g n z := by
  have e : splice cur 0 (news z 0 n) = news z 0 n := by
    simp [splice, news, hl]
  rw [e] at h
  intro i hi
  rw [cell_of_row w g i _ 3 (0, 0) h]
  have := news_get z 0 n i hi
  rw [Nat.zero_add] at this
  simpa using this

end Go.Proofs.Qxb6608886a.Small
