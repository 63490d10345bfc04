/-
  THE WALK of FnSweepRingsGroupsSortsAndBounds, where every ring's number is in its bounds.
-/
import Derived.Test.Qxb6609068aSwCheck
namespace Go.Proofs.Qxb6609068a.Small
open Go.ChangeShapes Go.WideShapes Go.ChangeAt Go.RowKit
set_option linter.unusedVariables false
set_option linter.unusedSimpArgs false
attribute [local go_sem ↓] Go.wp_at_zero Go.wp_at_succ
attribute [local go_sem] run_store_float

theorem info4 : (Try.prog.info? 4).map (fun i => (i.zero, i.size, i.bytes)) = some (some (.bool false), 1, 1) := by kernel_rfl
theorem info2 : (Try.prog.info? 2).map (fun i => (i.zero, i.size, i.bytes)) = some (some (.int .i64 0), 1, 8) := by kernel_rfl

/-- a row that 'make' has laid -/
theorem made_one {w' : World} {base e m : Nat} {v : Value} {z : Value} (h : w'.ownsRow base e 1 v m (madeCells z.cells (m * 1)).toList) (hz : z.cells = #[z]) : w'.ownsRow base e 1 v m (rowOf m (fun _ => z)) := by
  rw [made_rowOf, hz, Nat.mul_one] at h
  rw [show rowOf m (fun _ => z) = rowOf m (fun j => #[z][j % #[z].size]!) from rowOf_congr fun j _ => by simp [Nat.mod_one]]
  exact h

theorem tab_start {base : Nat} {w1 w2 w3 w4 w5 w6 : World} {M b0 b1 b2 b3 b4 b5 : Nat} (s : Segs)
    (o1 : w1.ownsRow base 3 1 (.slice (some ⟨b0, 0, none⟩) M M) M (rowOf M (fun _ => .int .i64 0))) (o2 : w2.ownsRow base 4 1 (.slice (some ⟨b1, 0, none⟩) M M) M (rowOf M (fun _ => .bool false)))
    (o3 : w3.ownsRow base 2 1 (.slice (some ⟨b2, 0, none⟩) M M) M (rowOf M (fun _ => .int .i64 0))) (o4 : w4.ownsRow base 2 1 (.slice (some ⟨b3, 0, none⟩) M M) M (rowOf M (fun _ => .int .i64 0)))
    (o5 : w5.ownsRow base 2 1 (.slice (some ⟨b4, 0, none⟩) M M) M (rowOf M (fun _ => .int .i64 0))) (o6 : w6.ownsRow base 2 1 (.slice (some ⟨b5, 0, none⟩) M M) M (rowOf M (fun _ => .int .i64 0)))
    (g2 : w1.grownBy w2 none) (g3 : w2.grownBy w3 none) (g4 : w3.grownBy w4 none) (g5 : w4.grownBy w5 none) (g6 : w5.grownBy w6 none) :
    Tab base w6 M b0 b1 b2 b3 b4 b5 (cF s 0) (hF s 0) (xF s 0 0) (xF s 0 1) (xF s 0 2) (xF s 0 3) := by
  have k : ∀ {A B : World} {e g : Nat} {xs : List Value}, A.ownsRow base e 1 (.slice (some ⟨g, 0, none⟩) M M) M xs → A.grownBy B none → B.ownsRow base e 1 (.slice (some ⟨g, 0, none⟩) M M) M xs := fun h hg => h.kept hg (.inr (by simp [Value.ownBlock]))
  exact ⟨k (k (k (k (k o1 g2) g3) g4) g5) g6, k (k (k (k o2 g3) g4) g5) g6, k (k (k o3 g4) g5) g6, k (k o4 g5) g6, k o5 g6, o6⟩

/-- the coordinates are int64s -/
def InI (x : Int) : Prop := -9223372036854775808 ≤ x ∧ x ≤ 9223372036854775807
theorem wrap_id {x : Int} (h : InI x) : wrap64 (x + 0) = x := by
  unfold InI at h
  unfold wrap64
  omega

theorem edgeRow_of {w : World} {base g n : Nat} {s : Segs} (h : w.ownsRow base 63 8 (.slice (some ⟨g, 0, none⟩) n n) n (rowOf (n * 8) (edgeT s 0 0))) (hi : ∀ k, k < n → InI (s.ax k) ∧ InI (s.ay k) ∧ InI (s.bx k) ∧ InI (s.by' k)) : ∀ k, k < n → EdgeRow w g s k := by
  intro k hk
  obtain ⟨i0, i1, i2, i3⟩ := hi k hk
  refine ⟨?_, ?_, ?_, ?_, ?_⟩
  · rw [own_rowOf h rfl (k * 8) (by omega), edgeT0, wrap_id i0]
  · rw [own_rowOf h rfl (k * 8 + 1) (by omega), edgeT1, wrap_id i1]
  · rw [own_rowOf h rfl (k * 8 + 2) (by omega), edgeT2, wrap_id i2]
  · rw [own_rowOf h rfl (k * 8 + 2 + 1) (by omega)]
    show some (edgeT s 0 0 (k * 8 + 3)) = _
    rw [edgeT3, wrap_id i3]
  · rw [own_rowOf h rfl (k * 8 + 4) (by omega), edgeT4]

theorem rg_lt_top {rg : Nat → Int} : ∀ n k, k < n → 0 ≤ rg k → rg k < ((top rg n : Nat) : Int)
  | 0, k, h, _ => absurd h (Nat.not_lt_zero _)
  | n + 1, k, h, h0 => by
    rw [top]
    by_cases e : k = n
    · subst e; omega
    · have := rg_lt_top n k (by omega) h0
      omega

set_option maxRecDepth 1000000 in
set_option maxHeartbeats 16000000 in
theorem sweep_in (b o n c : Nat) (s : Segs) (w : World) (hn : n ≤ 8192) (hs : ∀ i, i < n → SegAt w b o s i) (hrg : ∀ k, k < n → 0 ≤ s.rg k ∧ s.rg k < 65536) (hin : ∀ k, k < n → InI (s.ax k) ∧ InI (s.ay k) ∧ InI (s.bx k) ∧ InI (s.by' k)) :
    Calls Try.prog 7 #[.slice (some ⟨b, o, none⟩) n c] w fun e w' => e = .returned (.bool true) ∧ Below w.heap.size w w' := by
  have HS : Hid (∀ i, i < n → SegAt w b o s i) := hs
  have HRG : Hid (∀ k, k < n → 0 ≤ s.rg k ∧ s.rg k < 65536) := hrg
  have HIN : Hid (∀ k, k < n → InI (s.ax k) ∧ InI (s.ay k) ∧ InI (s.bx k) ∧ InI (s.by' k)) := hin
  clear hs hrg hin
  obtain ⟨M, hM⟩ : ∃ M, M = top s.rg n := ⟨_, rfl⟩
  have htl : M ≤ 65536 := by rw [hM]; exact top_le 65536 n fun k hk => HRG.out k hk
  have HCT : Hid (∀ w, (∀ i, i < n → SegAt w b o s i) → Calls Try.prog 22 #[.slice (some ⟨b, o, none⟩) n c] w fun e w' => e = .returned (.int .i64 (M : Int)) ∧ w' = w) := fun w h => by rw [hM]; exact ringCount_is b o n c s w hn h HRG.out
  have HMk : Hid (∀ k, k < n → s.rg k < (M : Int)) := fun k hk => by rw [hM]; exact rg_lt_top n k hk (HRG.out k hk).1
  have HM : Hid (M = top s.rg n) := hM
  clear hM
  obtain ⟨i3, hi3, hz3, hs3, hb3⟩ := info_parts info3
  obtain ⟨i4, hi4, hz4, hs4, hb4⟩ := info_parts info4
  obtain ⟨i2, hi2, hz2, hs2, hb2⟩ := info_parts info2
  go_enter Try.func7, Try.ntmps7
  go_wp2_with (go_at_call 21; refine (zzBytes21_yes _ _ _ _ hn).mono ?_; rintro e w' ⟨rfl, hw⟩; subst w')
  go_loopw [3] (fun i wr => ∃ k : Nat, k ≤ n ∧ i = .int .i64 k ∧ wr = w) (fun i _ => n - (intOf i).toNat)
  case atStart => exact ⟨0, Nat.zero_le _, rfl, rfl⟩
  case round =>
    obtain ⟨k, hk, rfl, rfl⟩ := hrel
    by_cases hlt : k < n
    · obtain ⟨c0, c1, c2, c3, c4, c5, c6, c7⟩ := HS.out k hlt
      obtain ⟨h1, h2⟩ := HRG.out k hlt
      go_wp2
      go_roundw
      case rel => exact ⟨k + 1, by omega, by go_num, trivial⟩
      case measure => simp [intOf]; omega
    · obtain rfl : n = k := by omega
      have t1 : True := trivial
      have t2 : True := trivial
      have t3 : True := trivial
      go_wp2_with (first
        | (go_at_call 22; refine (HCT.out _ HS.out).mono ?_; rintro e w' ⟨rfl, hw⟩; subst w')
        | (at_make; refine wpList_make_full _ rfl _ _ 49 rfl wr.heap.size 3 i3 _ 1 Try.underlying49 hi3 hz3 hs3 _ _ _ _ M rfl rfl rfl rfl (by rw [hb3]; omega) (by unfold maxLen; omega) (Nat.le_refl _) ?_; intro w1 hown hgrow; have q1 : wr.heap.size < w1.heap.size := (hown.lt _ rfl).2; have O1 : Hid (w1.ownsRow wr.heap.size 3 1 (.slice (some ⟨wr.heap.size, 0, none⟩) M M) M (rowOf M (fun _ => (.int .i64 0)))) := made_one hown rfl; have G1 : Hid (wr.grownBy w1 none) := hgrow; clear hown hgrow)
        | (at_make; refine wpList_make_full _ rfl _ _ 50 rfl wr.heap.size 4 i4 _ 1 Try.underlying50 hi4 hz4 hs4 _ _ _ _ M rfl rfl rfl rfl (by rw [hb4]; omega) (by unfold maxLen; omega) (by omega) ?_; intro w2 hown hgrow; have q2 : w1.heap.size < w2.heap.size := (hown.lt _ rfl).2; have O2 : Hid (w2.ownsRow wr.heap.size 4 1 (.slice (some ⟨w1.heap.size, 0, none⟩) M M) M (rowOf M (fun _ => (.bool false)))) := made_one hown rfl; have G2 : Hid (w1.grownBy w2 none) := hgrow; clear hown hgrow)
        | (at_make; have _t := t1; refine wpList_make_full _ rfl _ _ 51 rfl wr.heap.size 2 i2 _ 1 Try.underlying51 hi2 hz2 hs2 _ _ _ _ M rfl rfl rfl rfl (by rw [hb2]; omega) (by unfold maxLen; omega) (by omega) ?_; intro w3 hown hgrow; have q3 : w2.heap.size < w3.heap.size := (hown.lt _ rfl).2; have O3 : Hid (w3.ownsRow wr.heap.size 2 1 (.slice (some ⟨w2.heap.size, 0, none⟩) M M) M (rowOf M (fun _ => (.int .i64 0)))) := made_one hown rfl; have G3 : Hid (w2.grownBy w3 none) := hgrow; clear hown hgrow; clear t1)
        | (at_make; have _t := t2; refine wpList_make_full _ rfl _ _ 51 rfl wr.heap.size 2 i2 _ 1 Try.underlying51 hi2 hz2 hs2 _ _ _ _ M rfl rfl rfl rfl (by rw [hb2]; omega) (by unfold maxLen; omega) (by omega) ?_; intro w4 hown hgrow; have q4 : w3.heap.size < w4.heap.size := (hown.lt _ rfl).2; have O4 : Hid (w4.ownsRow wr.heap.size 2 1 (.slice (some ⟨w3.heap.size, 0, none⟩) M M) M (rowOf M (fun _ => (.int .i64 0)))) := made_one hown rfl; have G4 : Hid (w3.grownBy w4 none) := hgrow; clear hown hgrow; clear t2)
        | (at_make; have _t := t3; refine wpList_make_full _ rfl _ _ 51 rfl wr.heap.size 2 i2 _ 1 Try.underlying51 hi2 hz2 hs2 _ _ _ _ M rfl rfl rfl rfl (by rw [hb2]; omega) (by unfold maxLen; omega) (by omega) ?_; intro w5 hown hgrow; have q5 : w4.heap.size < w5.heap.size := (hown.lt _ rfl).2; have O5 : Hid (w5.ownsRow wr.heap.size 2 1 (.slice (some ⟨w4.heap.size, 0, none⟩) M M) M (rowOf M (fun _ => (.int .i64 0)))) := made_one hown rfl; have G5 : Hid (w4.grownBy w5 none) := hgrow; clear hown hgrow; clear t3)
        | (at_make; refine wpList_make_full _ rfl _ _ 51 rfl wr.heap.size 2 i2 _ 1 Try.underlying51 hi2 hz2 hs2 _ _ _ _ M rfl rfl rfl rfl (by rw [hb2]; omega) (by unfold maxLen; omega) (by omega) ?_; intro w6 hown hgrow; have q6 : w5.heap.size < w6.heap.size := (hown.lt _ rfl).2; have O6 : Hid (w6.ownsRow wr.heap.size 2 1 (.slice (some ⟨w5.heap.size, 0, none⟩) M M) M (rowOf M (fun _ => (.int .i64 0)))) := made_one hown rfl; have G6 : Hid (w5.grownBy w6 none) := hgrow; clear hown hgrow))
      have HT0 : Hid (Tab wr.heap.size w6 M wr.heap.size w1.heap.size w2.heap.size w3.heap.size w4.heap.size w5.heap.size (cF s 0) (hF s 0) (xF s 0 0) (xF s 0 1) (xF s 0 2) (xF s 0 3)) := tab_start s O1.out O2.out O3.out O4.out O5.out O6.out G2.out G3.out G4.out G5.out G6.out
      have hnone : ∀ k, (none : Option Nat) = some k → wr.heap.size ≤ k := fun k hk => by cases hk
      have HB0 : Hid (Below wr.heap.size wr w6) := (((((((Below.refl wr.heap.size wr).grown G1.out (Nat.le_refl _) hnone).grown G2.out (by omega) hnone).grown G3.out (by omega) hnone).grown G4.out (by omega) hnone).grown G5.out (by omega) hnone).grown G6.out (by omega) hnone)
      clear O1 O2 O3 O4 O5 O6 G1 G2 G3 G4 G5 G6 hnone
      refine law_fill b o n c M wr.heap.size wr.heap.size w1.heap.size w2.heap.size w3.heap.size w4.heap.size w5.heap.size s wr w6 hn HS HRG htl HMk (Nat.le_refl _) (Nat.le_refl _) q1 q2 q3 q4 q5 HT0 HB0 _ _ _ _ _ _ _ _ _ _ _ _ _ _ _ _ _ _ _ _ _ _ _ _ _ _ _ _ _ _ _ _ _ _ _ _ _ _ _ _ _ _ _ _ _ _ _ _ _ _ _ _ _ _ _ _ _ _ _ _ _ _ _ _ _ _ _ _ _ _ _ _ _ _ _ _ _ _ _ _ _ _ _ _ _ _ _ _ _ _ _ _ _ _ _ _ _ _ _ _ _ _ _ _ _ _ _ _ _ _ _ _ _ _ _ _ _ _ _ _ _ _ _ _ _ _ _ _ _ _ _ _ _ _ _ _ _ _ _ _ _ _ _ _ _ _ _ _ _ _ _ _ _ _ _ _ _ _ _ _ _ _ _ _ _ _ _ _ _ _ _ _ _ _ _ _ _ _ _ _ _ _ _ _ _ _ _ _ _ _ _ _ _ _ _ _ _ _ _ _ _ _ _ _ _ _ _ _ _ _ _ _ _ _ _ _ _ _ _ _ _ _ _ _ _ _ _ _ _ _ _ _ _ _ _ _ _ _ _ _ _ _ _ _ _ _ _ _ _ _ _ _ _ _ _ _ _ _ _ _ _ _ _ _ _ _ _ _ _ _ _ _ _ _ _ _ _ _ _ _ _ _ _ _ _ _ _ _ _ ?_
      intro z12 z13 z14 z15 z16 z17 z18 z71 z72 z73 z74 z75 z76 z77 z78 z79 z80 z81 z82 z83 z84 z85 z86 z87 z88 z89 z90 z91 z92 z93 z94 z95 z96 z97 z98 z99 z100 z101 z102 z103 z104 z105 z106 z107 z108 z109 z110 z111 z112 z113 z114 z115 z116 z117 z118 z119 z120 z121 z122 z123 z124 z125 z126 z127 z128 z129 z130 z131 z132 z133 z134 z135 z136 z137 z138 z139 z140 z141 z142 z143 z144 z145 z146 z147 z148 z149 z150 z151 z152 z153 z154 z155 z156 z157 z158 z159 z160 z161 z162 z163 z164 z165 z166 z167 wf hT1 hB1
      have HT1 : Hid (Tab wr.heap.size wf M wr.heap.size w1.heap.size w2.heap.size w3.heap.size w4.heap.size w5.heap.size (cF s n) (hF s n) (xF s n 0) (xF s n 1) (xF s n 2) (xF s n 3)) := hT1
      have HB1 : Hid (Below wr.heap.size wr wf) := hB1
      clear hT1 hB1 HT0 HB0 HCT
      have hzf := HB1.out.size
      go_wp2_with (first
        | (go_at_call 14; refine (buildEdges_is b o n c s 0 0 _ hn (fun i hi => segat_under (HS.out i hi) HB1.out (Nat.le_refl _))).mono ?_; rintro e w7 ⟨ge, rfl, hown, hb⟩; have HE7 : Hid (∀ k, k < n → EdgeRow w7 ge s k) := edgeRow_of hown HIN.out; have hge : ge < w7.heap.size := (hown.lt ge rfl).2; have HB7 : Hid (Below wf.heap.size wf w7) := hb; clear hown hb)
        | (go_at_call 23; refine (zzsweep_is ge n s _ hn HE7.out hge HRG.out).mono ?_; rintro e w8 ⟨v, rb, E, L, rfl, hrb, hR, hL, hB⟩; rw [← HM.out] at hR hL; obtain ⟨pv, cv, rfl, _⟩ := own_is hR.row; have HR8 : Hid (RingsAt rb w8 (.slice pv M cv) M E L (fun k => bxs s k n)) := hR; have HL8 : Hid (∀ j, j < M → (L j).Perm (es s.rg j n) ∧ (L j).Pairwise (fun a b => min (s.ay a) (s.by' a) ≤ min (s.ay b) (s.by' b))) := hL; have HB8 : Hid (Below w7.heap.size w7 w8) := hB; clear hR hL hB hrb)
        | (at_make; refine wpList_make_full _ rfl _ _ 50 rfl w8.heap.size 4 i4 _ 1 Try.underlying50 hi4 hz4 hs4 _ _ _ _ n rfl rfl rfl rfl (by rw [hb4]; omega) (by unfold maxLen; omega) (Nat.le_refl _) ?_; intro w9 hown hgrow; have O9 : Hid (w9.ownsRow w8.heap.size 4 1 (.slice (some ⟨w8.heap.size, 0, none⟩) n n) n (rowOf n (fun _ => .bool false))) := made_one hown rfl; have G9 : Hid (w8.grownBy w9 none) := hgrow; clear hown hgrow))
      have HT8 : Hid (Tab wr.heap.size w8 M wr.heap.size w1.heap.size w2.heap.size w3.heap.size w4.heap.size w5.heap.size (cF s n) (hF s n) (xF s n 0) (xF s n 1) (xF s n 2) (xF s n 3)) := (HT1.out.on HB7.out).on HB8.out
      have HBw : Hid (Below wr.heap.size wr w8) := (HB1.out.trans (HB7.out.mono hzf)).trans (HB8.out.mono (Nat.le_trans hzf HB7.out.size))
      have HS8 : Hid (∀ i, i < n → SegAt w8 b o s i) := fun i hi => segat_under (HS.out i hi) HBw.out (Nat.le_refl _)
      have H09 : Hid (w9.ownsRow w8.heap.size 4 1 (.slice (some ⟨w8.heap.size, 0, none⟩) n n) n (rowOf n (sF s L 0 0))) := by
        have h := O9.out
        rw [rowOf_congr (sF_start (s := s) (L := L) HRG.out)] at h
        exact h
      have HB9 : Hid (Below w8.heap.size w8 w9) := (Below.refl w8.heap.size w8).grown G9.out (Nat.le_refl _) (fun k hk => by cases hk)
      clear O9 G9 HT1 HB7 HB8 HB1 HE7
      refine law_check b o n c M wr.heap.size wr.heap.size w1.heap.size w2.heap.size w3.heap.size w4.heap.size w5.heap.size rb cv pv s E L w8 w9 hn HS8 htl HT8 HR8 HL8 H09 HB9 _ _ _ _ _ _ _ _ _ _ _ _ _ _ _ _ _ _ _ _ _ _ _ _ _ _ _ _ _ _ _ _ _ _ _ _ _ _ _ _ _ _ _ _ _ _ _ _ _ _ _ _ _ _ _ _ _ _ _ _ _ _ _ _ _ _ _ _ _ _ _ _ _ _ _ _ _ _ _ _ _ _ _ _ _ _ _ _ _ _ _ _ _ _ _ _ _ _ _ _ _ _ _ _ _ _ _ _ _ _ _ _ _ _ _ _ _ _ _ _ _ _ _ _ _ _ _ _ _ _ _ _ _ _ _ _ _ _ _ _ _ _ _ _ _ _ _ _ _ _ _ _ _ _ _ _ _ _ _ _ _ _ _ _ _ _ _ _ _ _ _ _ _ _ _ _ _ _ _ _ _ _ _ _ _ _ _ _ _ _ _ _ _ _ _ _ _ _ _ _ _ _ _ _ _ _ _ _ _ _ _ _ _ _ _ _ _ _ _ _ _ _ _ _ _ _ _ _ _ _ _ _ _ _ _ _ _ _ _ _ _ _ _ _ _ _ _ _ _ _ _ _ _ _ _ _ _ _ _ _ _ _ _ _ _ _ _ _ _ _ _ _ _ _ _ _ _ _ _ _ _ _ _ _ _ _ _ ?_
      intro z2 z21 z22 z23 z24 z25 z26 z27 z28 z177 z178 z179 z180 z181 z182 z183 z184 z185 z186 z187 z188 z189 z190 z191 z192 z193 z194 z195 z196 z197 z198 z199 z200 z201 z202 z203 z204 z205 z206 z207 z208 z209 z210 z211 z212 z213 z214 z215 z216 z217 z218 z219 z220 z221 z222 z223 z224 z225 z226 z227 z228 z229 z230 z231 z232 z233 z234 z235 z236 z237 z238 z239 z240 z241 z242 z243 z244 z245 z246 z247 z248 z249 z250 z251 z252 z253 z254 z255 z256 z257 z258 z259 z260 z261 z262 z263 z264 z265 z266 z267 z268 z269 z270 z271 z272 z273 z274 z275 z276 z277 z278 z279 z280 z281 z282 z283 z284 z285 z286 z287 z288 z289 z290 z291 z292 z293 z294 z295 z296 we hBe
      have HBe : Hid (Below wr.heap.size wr we) := HBw.out.trans (hBe.mono HBw.out.size)
      clear hBe
      go_wp2
      go_ret
      exact ⟨rfl, HBe.out⟩

end Go.Proofs.Qxb6609068a.Small
