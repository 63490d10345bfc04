/-
  FnSweepRingsGroupsSortsAndBounds, its third loop: ring by ring, what sweepRings has made is what the law asks; as a declaration of its own.
-/
import Derived.Test.Qxb6609068aSeen
import Derived.Laws.StructEq
import Derived.ChangeKeysEq
import Derived.Deep.RegionHeld3
import Derived.Deep.DeepCutAuto
import Derived.BigRegion
import Derived.Deep.QuietTactic
import Derived.BigQuiet
namespace Go.Proofs.Qxb6609068a.Small
open Go.ChangeShapes Go.WideShapes Go.ChangeAt Go.RowKit
set_option linter.unusedVariables false
set_option linter.unusedSimpArgs false
attribute [local go_sem ↓] Go.wp_at_zero Go.wp_at_succ
attribute [local go_sem] run_store_float

theorem RingsAt.cells7 {base : Nat} {w : World} {g m c : Nat} {E : Nat → Value} {L : Nat → List Nat} {B : Nat → Nat → Int} (h : RingsAt base w (.slice (some ⟨g, 0, none⟩) m c) m E L B) (r : Nat) (hr : r < m) :
    w.cell? ⟨g, r * 7, none⟩ = some (E r) ∧ w.cell? ⟨g, r * 7 + 1, none⟩ = some (.int .i64 0) ∧ w.cell? ⟨g, r * 7 + 2, none⟩ = some nilS ∧ w.cell? ⟨g, r * 7 + 3, none⟩ = some (.int .i64 (B r 0)) ∧ w.cell? ⟨g, r * 7 + 4, none⟩ = some (.int .i64 (B r 1)) ∧ w.cell? ⟨g, r * 7 + 5, none⟩ = some (.int .i64 (B r 2)) ∧ w.cell? ⟨g, r * 7 + 6, none⟩ = some (.int .i64 (B r 3)) := h.cells r hr

theorem boxes2 (w : World) (a a' b b' : Value) (t t' : TypeId) : ((w.alloc (.cells #[a, a'] t)).alloc (.cells #[b, b'] t')).cell? ⟨w.heap.size, 0, none⟩ = some a ∧ ((w.alloc (.cells #[a, a'] t)).alloc (.cells #[b, b'] t')).cell? ⟨w.heap.size, 1, none⟩ = some a' ∧
    ((w.alloc (.cells #[a, a'] t)).alloc (.cells #[b, b'] t')).cell? ⟨w.heap.size + 1, 0, none⟩ = some b ∧ ((w.alloc (.cells #[a, a'] t)).alloc (.cells #[b, b'] t')).cell? ⟨w.heap.size + 1, 1, none⟩ = some b' :=
  ⟨cell_of_row _ _ 0 _ _ _ (heap_alloc2_old w _ _), cell_of_row _ _ 1 _ _ _ (heap_alloc2_old w _ _), cell_of_row _ _ 0 _ _ _ (heap_alloc2_new w _ _), cell_of_row _ _ 1 _ _ _ (heap_alloc2_new w _ _)⟩

set_option maxRecDepth 100000 in
theorem eq55 (w : World) (a b a' b' : Int) : (Op.equalIn 10000 55 (.agg #[.int .i64 a, .int .i64 b]) (.agg #[.int .i64 a', .int .i64 b'])).run Try.prog w = .ok (a == a' && b == b') w := by
  obtain ⟨i2, hi2⟩ : ∃ i, Try.prog.info? 2 = some i := by
    have h : (Try.prog.info? 2).isSome = true := by kernel_rfl
    exact Option.isSome_iff_exists.1 h
  have hc : Try.prog.cellsOf 2 = 1 := by kernel_rfl
  have e := run_equalIn_array w 9999 (P := Try.prog) (t := 55) (e := 2) (n := 2) (i := i2) #[.int .i64 a, .int .i64 b] #[.int .i64 a', .int .i64 b'] Try.underlying55 hi2
  refine e.trans ?_
  rw [hc]
  have h1 : (Op.equalIn 9999 2 (.int .i64 a) (.int .i64 a')).run Try.prog w = .ok (a == a') w := run_equalIn_int w 9998 (P := Try.prog) 2 .i64 .i64 a a' Try.underlying2
  have h2 : (Op.equalIn 9999 2 (.int .i64 b) (.int .i64 b')).run Try.prog w = .ok (b == b') w := run_equalIn_int w 9998 (P := Try.prog) 2 .i64 .i64 b b' Try.underlying2
  have p1 : ∀ (x y : Int), (Go.part 2 #[.int .i64 x, .int .i64 y] 0).run Try.prog w = .ok (.int .i64 x) w := fun x y => by
    simp [Go.part, go_sem]
  have p2 : ∀ (x y : Int), (Go.part 2 #[.int .i64 x, .int .i64 y] 1).run Try.prog w = .ok (.int .i64 y) w := fun x y => by
    simp [Go.part, go_sem]
  show (Op.eqItems 9999 2 1 _ _ [0, 1]).run Try.prog w = _
  simp only [Op.eqItems, Sem.run_bind, Nat.mul_one, p1, Result.andThen_ok, h1]
  cases hh : (a == a')
  · simp
  · cases hb : (b == b')
    · rw [hb] at h2
      simp only [Bool.not_true, Bool.false_eq_true, if_false, Sem.run_bind, p2, Result.andThen_ok, h2]
      simp
    · rw [hb] at h2
      simp only [Bool.not_true, Bool.false_eq_true, if_false, Sem.run_bind, p2, Result.andThen_ok, h2]
      simp
attribute [local go_sem] eq55

set_option maxRecDepth 1000000 in
set_option maxHeartbeats 40000000 in
theorem law_check (b o n c M base b0 b1 b2 b3 b4 b5 rb cv : Nat) (pv : Option Addr) (s : Segs) (E : Nat → Value) (L : Nat → List Nat) (wp wc : World) (hn : n ≤ 8192) (HS : Hid (∀ i, i < n → SegAt wp b o s i)) (htl : M ≤ 65536)
    (HT : Hid (Tab base wp M b0 b1 b2 b3 b4 b5 (cF s n) (hF s n) (xF s n 0) (xF s n 1) (xF s n 2) (xF s n 3)))
    (HR : Hid (RingsAt rb wp (.slice pv M cv) M E L (fun k => bxs s k n)))
    (HL : Hid (∀ j, j < M → (L j).Perm (es s.rg j n) ∧ (L j).Pairwise (fun a b => min (s.ay a) (s.by' a) ≤ min (s.ay b) (s.by' b))))
    (H0 : Hid (wc.ownsRow wp.heap.size 4 1 (.slice (some ⟨wp.heap.size, 0, none⟩) n n) n (rowOf n (sF s L 0 0)))) (HB : Hid (Below wp.heap.size wp wc))
    (Q0 : Exit → Act → World → Prop) (u1 u2 u3 u7 u12 u13 u14 u15 u16 u17 u18 u22 u23 u24 u25 u26 u27 u28 u29 u30 u31 u32 u33 u34 u35 u36 u37 u38 u39 u40 u41 u42 u43 u44 u45 u46 u47 u48 u49 u50 u51 u52 u53 u54 u55 u56 u57 u58 u59 u60 u61 u62 u63 u64 u65 u66 u67 u68 u69 u70 u71 u72 u73 u74 u75 u76 u77 u78 u79 u80 u81 u82 u83 u84 u85 u86 u87 u88 u89 u90 u91 u92 u93 u94 u95 u96 u97 u98 u99 u100 u101 u102 u103 u104 u105 u106 u107 u108 u109 u110 u111 u112 u113 u114 u115 u116 u117 u118 u119 u120 u121 u122 u123 u124 u125 u126 u127 u128 u129 u130 u131 u132 u133 u134 u135 u136 u137 u138 u139 u140 u141 u142 u143 u144 u145 u146 u147 u148 u149 u150 u151 u152 u153 u154 u155 u156 u157 u158 u159 u160 u161 u162 u163 u164 u165 u166 u167 u168 u169 u170 u171 u172 u173 u174 u175 u176 u177 u178 u179 u180 u181 u182 u183 u184 u185 u186 u187 u188 u189 u190 u191 u192 u193 u194 u195 u196 u197 u198 u199 u200 u201 u202 u203 u204 u205 u206 u207 u208 u209 u210 u211 u212 u213 u214 u215 u216 u217 u218 u219 u220 u221 u222 u223 u224 u225 u226 u227 u228 u229 u230 u231 u232 u233 u234 u235 u236 u237 u238 u239 u240 u241 u242 u243 u244 u245 u246 u247 u248 u249 u250 u251 u252 u253 u254 u255 u256 u257 u258 u259 u260 u261 u262 u263 u264 u265 u266 u267 u268 u269 u270 u271 u272 u273 u274 u275 u276 u277 u278 u279 u280 u281 u282 u283 u284 u285 u286 u287 u288 u289 u290 u291 u292 u293 u294 u295 u296 : Value)
    (HX : Hid (∀ (z2 z21 z22 z23 z24 z25 z26 z27 z28 z177 z178 z179 z180 z181 z182 z183 z184 z185 z186 z187 z188 z189 z190 z191 z192 z193 z194 z195 z196 z197 z198 z199 z200 z201 z202 z203 z204 z205 z206 z207 z208 z209 z210 z211 z212 z213 z214 z215 z216 z217 z218 z219 z220 z221 z222 z223 z224 z225 z226 z227 z228 z229 z230 z231 z232 z233 z234 z235 z236 z237 z238 z239 z240 z241 z242 z243 z244 z245 z246 z247 z248 z249 z250 z251 z252 z253 z254 z255 z256 z257 z258 z259 z260 z261 z262 z263 z264 z265 z266 z267 z268 z269 z270 z271 z272 z273 z274 z275 z276 z277 z278 z279 z280 z281 z282 z283 z284 z285 z286 z287 z288 z289 z290 z291 z292 z293 z294 z295 z296 : Value) (wr : World), Below wp.heap.size wp wr → Q0 (.exit 4) ⟨List.toArray (((.slice (some ⟨b, o, none⟩) n c : Value)) :: u1 :: z2 :: u3 :: ((.int .i64 n : Value)) :: ((.int .i64 M : Value)) :: ((.slice (some ⟨b0, 0, none⟩) M M : Value)) :: u7 :: ((.slice (some ⟨b2, 0, none⟩) M M : Value)) :: ((.slice (some ⟨b3, 0, none⟩) M M : Value)) :: ((.slice (some ⟨b4, 0, none⟩) M M : Value)) :: ((.slice (some ⟨b5, 0, none⟩) M M : Value)) :: u12 :: u13 :: u14 :: u15 :: u16 :: u17 :: u18 :: ((.slice pv M cv : Value)) :: ((.slice (some ⟨wp.heap.size, 0, none⟩) n n : Value)) :: z21 :: z22 :: z23 :: z24 :: z25 :: z26 :: z27 :: z28 :: u29 :: u30 :: u31 :: u32 :: u33 :: u34 :: u35 :: u36 :: u37 :: u38 :: u39 :: u40 :: u41 :: u42 :: u43 :: u44 :: u45 :: u46 :: u47 :: u48 :: u49 :: u50 :: u51 :: u52 :: u53 :: u54 :: u55 :: u56 :: u57 :: u58 :: u59 :: u60 :: u61 :: u62 :: u63 :: u64 :: u65 :: u66 :: u67 :: u68 :: u69 :: u70 :: u71 :: u72 :: u73 :: u74 :: u75 :: u76 :: u77 :: u78 :: u79 :: u80 :: u81 :: u82 :: u83 :: u84 :: u85 :: u86 :: u87 :: u88 :: u89 :: u90 :: u91 :: u92 :: u93 :: u94 :: u95 :: u96 :: u97 :: u98 :: u99 :: u100 :: u101 :: u102 :: u103 :: u104 :: u105 :: u106 :: u107 :: u108 :: u109 :: u110 :: u111 :: u112 :: u113 :: u114 :: u115 :: u116 :: u117 :: u118 :: u119 :: u120 :: u121 :: u122 :: u123 :: u124 :: u125 :: u126 :: u127 :: u128 :: u129 :: u130 :: u131 :: u132 :: u133 :: u134 :: u135 :: u136 :: u137 :: u138 :: u139 :: u140 :: u141 :: u142 :: u143 :: u144 :: u145 :: u146 :: u147 :: u148 :: u149 :: u150 :: u151 :: u152 :: u153 :: u154 :: u155 :: u156 :: u157 :: u158 :: u159 :: u160 :: u161 :: u162 :: u163 :: u164 :: u165 :: u166 :: u167 :: u168 :: u169 :: u170 :: u171 :: u172 :: u173 :: u174 :: u175 :: u176 :: z177 :: z178 :: z179 :: z180 :: z181 :: z182 :: z183 :: z184 :: z185 :: z186 :: z187 :: z188 :: z189 :: z190 :: z191 :: z192 :: z193 :: z194 :: z195 :: z196 :: z197 :: z198 :: z199 :: z200 :: z201 :: z202 :: z203 :: z204 :: z205 :: z206 :: z207 :: z208 :: z209 :: z210 :: z211 :: z212 :: z213 :: z214 :: z215 :: z216 :: z217 :: z218 :: z219 :: z220 :: z221 :: z222 :: z223 :: z224 :: z225 :: z226 :: z227 :: z228 :: z229 :: z230 :: z231 :: z232 :: z233 :: z234 :: z235 :: z236 :: z237 :: z238 :: z239 :: z240 :: z241 :: z242 :: z243 :: z244 :: z245 :: z246 :: z247 :: z248 :: z249 :: z250 :: z251 :: z252 :: z253 :: z254 :: z255 :: z256 :: z257 :: z258 :: z259 :: z260 :: z261 :: z262 :: z263 :: z264 :: z265 :: z266 :: z267 :: z268 :: z269 :: z270 :: z271 :: z272 :: z273 :: z274 :: z275 :: z276 :: z277 :: z278 :: z279 :: z280 :: z281 :: z282 :: z283 :: z284 :: z285 :: z286 :: z287 :: z288 :: z289 :: z290 :: z291 :: z292 :: z293 :: z294 :: z295 :: z296 :: []), []⟩ wr)) :
    Code.wp Try.prog (((Try.f7.body.map loopsOf).getD []).getD 2 .skip) Q0 ⟨List.toArray (((.slice (some ⟨b, o, none⟩) n c : Value)) :: u1 :: u2 :: u3 :: ((.int .i64 n : Value)) :: ((.int .i64 M : Value)) :: ((.slice (some ⟨b0, 0, none⟩) M M : Value)) :: u7 :: ((.slice (some ⟨b2, 0, none⟩) M M : Value)) :: ((.slice (some ⟨b3, 0, none⟩) M M : Value)) :: ((.slice (some ⟨b4, 0, none⟩) M M : Value)) :: ((.slice (some ⟨b5, 0, none⟩) M M : Value)) :: u12 :: u13 :: u14 :: u15 :: u16 :: u17 :: u18 :: ((.slice pv M cv : Value)) :: ((.slice (some ⟨wp.heap.size, 0, none⟩) n n : Value)) :: ((.int .i64 0 : Value)) :: u22 :: u23 :: u24 :: u25 :: u26 :: u27 :: u28 :: u29 :: u30 :: u31 :: u32 :: u33 :: u34 :: u35 :: u36 :: u37 :: u38 :: u39 :: u40 :: u41 :: u42 :: u43 :: u44 :: u45 :: u46 :: u47 :: u48 :: u49 :: u50 :: u51 :: u52 :: u53 :: u54 :: u55 :: u56 :: u57 :: u58 :: u59 :: u60 :: u61 :: u62 :: u63 :: u64 :: u65 :: u66 :: u67 :: u68 :: u69 :: u70 :: u71 :: u72 :: u73 :: u74 :: u75 :: u76 :: u77 :: u78 :: u79 :: u80 :: u81 :: u82 :: u83 :: u84 :: u85 :: u86 :: u87 :: u88 :: u89 :: u90 :: u91 :: u92 :: u93 :: u94 :: u95 :: u96 :: u97 :: u98 :: u99 :: u100 :: u101 :: u102 :: u103 :: u104 :: u105 :: u106 :: u107 :: u108 :: u109 :: u110 :: u111 :: u112 :: u113 :: u114 :: u115 :: u116 :: u117 :: u118 :: u119 :: u120 :: u121 :: u122 :: u123 :: u124 :: u125 :: u126 :: u127 :: u128 :: u129 :: u130 :: u131 :: u132 :: u133 :: u134 :: u135 :: u136 :: u137 :: u138 :: u139 :: u140 :: u141 :: u142 :: u143 :: u144 :: u145 :: u146 :: u147 :: u148 :: u149 :: u150 :: u151 :: u152 :: u153 :: u154 :: u155 :: u156 :: u157 :: u158 :: u159 :: u160 :: u161 :: u162 :: u163 :: u164 :: u165 :: u166 :: u167 :: u168 :: u169 :: u170 :: u171 :: u172 :: u173 :: u174 :: u175 :: u176 :: u177 :: u178 :: u179 :: u180 :: u181 :: u182 :: u183 :: u184 :: u185 :: u186 :: u187 :: u188 :: u189 :: u190 :: u191 :: u192 :: u193 :: u194 :: u195 :: u196 :: u197 :: u198 :: u199 :: u200 :: u201 :: u202 :: u203 :: u204 :: u205 :: u206 :: u207 :: u208 :: u209 :: u210 :: u211 :: u212 :: u213 :: u214 :: u215 :: u216 :: u217 :: u218 :: u219 :: u220 :: u221 :: u222 :: u223 :: u224 :: u225 :: u226 :: u227 :: u228 :: u229 :: u230 :: u231 :: u232 :: u233 :: u234 :: u235 :: u236 :: u237 :: u238 :: u239 :: u240 :: u241 :: u242 :: u243 :: u244 :: u245 :: u246 :: u247 :: u248 :: u249 :: u250 :: u251 :: u252 :: u253 :: u254 :: u255 :: u256 :: u257 :: u258 :: u259 :: u260 :: u261 :: u262 :: u263 :: u264 :: u265 :: u266 :: u267 :: u268 :: u269 :: u270 :: u271 :: u272 :: u273 :: u274 :: u275 :: u276 :: u277 :: u278 :: u279 :: u280 :: u281 :: u282 :: u283 :: u284 :: u285 :: u286 :: u287 :: u288 :: u289 :: u290 :: u291 :: u292 :: u293 :: u294 :: u295 :: u296 :: []), []⟩ wc := by
  conv => arg 2; whnf
  go_loopw [21] (fun i' wr => ∃ r : Nat, i' = .int .i64 r ∧ r ≤ M ∧ Hid (wr.ownsRow wp.heap.size 4 1 (.slice (some ⟨wp.heap.size, 0, none⟩) n n) n (rowOf n (sF s L r 0))) ∧ Hid (Below wp.heap.size wp wr)) (fun i' _ => M - (intOf i').toNat)
  case atStart => exact ⟨0, rfl, Nat.zero_le _, H0, HB⟩
  case round =>
    obtain ⟨r, rfl, hrM, H1, HB1⟩ := hrel
    clear H0 HB
    by_cases hr : r < M
    · have hri : (r : Int) < (M : Int) := by omega
      obtain ⟨g, c', hv, hgb, hgl⟩ := own_some HR.out.row (by omega)
      simp only [Value.slice.injEq, true_and] at hv
      obtain ⟨rfl, rfl⟩ := hv
      obtain ⟨p', c', hE, hlc⟩ := own_is (HR.out.eds r hr)
      obtain ⟨hperm, hpair⟩ := HL.out r hr
      have hlen : (L r).length = (es s.rg r n).length := hperm.length_eq
      have hel := es_len (rg := s.rg) (k := r) n
      have HP : Hid ((L r).Perm (es s.rg r n)) := hperm
      have HPW : Hid ((L r).Pairwise (fun a b => min (s.ay a) (s.by' a) ≤ min (s.ay b) (s.by' b))) := hpair
      have hlen8 : (L r).length ≤ 8192 := by omega
      clear hperm hpair
      have x0 := own_rowOf (HT.out.on HB1.out).r0 (by omega) r (by omega)
      simp only [cF] at x0
      rw [← hlen] at x0
      clear hlen hel
      obtain ⟨y0, y1, y2, y3, y4, y5, y6⟩ := (HR.out.on HB1.out).cells7 r hr
      rw [hE] at y0
      have x0' : ∀ w', Below wr.heap.size wr w' → w'.cell? ⟨b0, r, none⟩ = some (.int .i64 ((L r).length : Int)) := fun w' h => cell_on h x0
      have X0 : Hid (∀ w', Below wr.heap.size wr w' → w'.cell? ⟨b0, r, none⟩ = some (.int .i64 ((L r).length : Int))) := x0'
      clear x0 x0'
      go_wp2_with (go_at_call 24; refine (ringEdges_is p' (L r).length c' (bxs s r n 0) (bxs s r n 1) (bxs s r n 2) (bxs s r n 3) _).mono ?_; rintro e w1 ⟨rfl, hb1⟩; have HB2 : Hid (Below wp.heap.size wp w1) := HB1.out.trans (hb1.mono HB1.out.size); have H2 : Hid (w1.ownsRow wp.heap.size 4 1 (.slice (some ⟨wp.heap.size, 0, none⟩) n n) n (rowOf n (sF s L r 0))) := own_on H1.out hb1; have x0 := X0.out w1 hb1; clear hb1)
      clear y0 y1 y2 y3 y4 y5 y6 x0 X0 H1 HB1
      go_loopw [23] (fun k' wr => ∃ k : Nat, k' = .int .i64 k ∧ k ≤ (L r).length ∧ Hid (wr.ownsRow wp.heap.size 4 1 (.slice (some ⟨wp.heap.size, 0, none⟩) n n) n (rowOf n (sF s L r k))) ∧ Hid (Below wp.heap.size wp wr)) (fun k' _ => (L r).length - (intOf k').toNat)
      case atStart => exact ⟨0, rfl, Nat.zero_le _, H2, HB2⟩
      case round =>
        obtain ⟨k, rfl, hkl, H3, HB3⟩ := hrel
        clear H2 HB2
        by_cases hk : k < (L r).length
        · have hki : (k : Int) < ((L r).length : Int) := by omega
          obtain ⟨x, hx, hxn, hxr⟩ := at_facts HP.out hk
          have hxi : (x : Int) < (n : Int) := by omega
          obtain ⟨ge, c2, hv2, _, _⟩ := own_some (HR.out.eds r hr) (by omega)
          rw [hE] at hv2
          simp only [Value.slice.injEq, true_and] at hv2
          obtain ⟨rfl, rfl⟩ := hv2
          have HX0 : Hid ((L r)[k]? = some x) := hx
          have HEd : Hid (∀ w', Below wp.heap.size wp w' → ∀ j y : Nat, (L r)[j]? = some y → w'.cell? ⟨ge, j, none⟩ = some (.int .i64 (y : Int))) := by
            intro w' hb j y hy
            have h := (HR.out.on hb).eds r hr
            rw [hE] at h
            rw [h.cellAt j (by have := (List.getElem?_eq_some_iff.1 hy).1; omega)]
            exact ixs_get hy
          have e0 := HEd.out _ HB3.out k x hx
          obtain ⟨s0, s1, s2, s3, s4, s5, s6, s7⟩ := (HS.out x hxn).on HB3.out
          rw [hxr] at s4
          have m0 := own_rowOf H3.out (by omega) x hxn
          rw [sF_new HP.out hx] at m0
          have m1 := H3.out.frozenAt x
          have hsz := HB3.out.size
          have HXR : Hid (s.rg x = (r : Int)) := hxr
          clear hx hxr
          go_upto_region 55 with (fail)
          have H4 : Hid ((wr.setCell ⟨wp.heap.size, x, none⟩ (.bool true)).ownsRow wp.heap.size 4 1 (.slice (some ⟨wp.heap.size, 0, none⟩) n n) n (rowOf n (sF s L r (k + 1)))) := own_next H3.out (sF_step HX0.out)
          have HB4 : Hid (Below wp.heap.size wp (wr.setCell ⟨wp.heap.size, x, none⟩ (.bool true))) := HB3.out.setCell (Nat.le_refl _) _
          generalize wr.setCell ⟨wp.heap.size, x, none⟩ (.bool true) = w4 at H4 HB4 ⊢
          clear H3 HB3 e0 s0 s1 s2 s3 s4 s5 s6 s7 m0 m1
          go_cut [247] from 194 to 247 (fun cc wx => cc = .bool false ∧ Hid (Below w4.heap.size w4 wx))
          case first =>
            rcases Nat.eq_zero_or_pos k with hk0 | hk0
            · subst hk0
              go_quiet (fail)
              go_wp2_with fail
              go_meet
              case rel => exact ⟨rfl, below_drewN (Below.refl _ _) nq⟩
            · obtain ⟨y, hy, hyn, hyr⟩ := at_facts HP.out (show k - 1 < (L r).length by omega)
              have hle := pair_le HPW.out hy (by rw [show k - 1 + 1 = k by omega]; exact HX0.out)
              have e0 := HEd.out _ HB4.out (k - 1) y hy
              obtain ⟨s0, s1, s2, s3, s4, s5, s6, s7⟩ := (HS.out x hxn).on HB4.out
              rw [HXR.out] at s4
              obtain ⟨p0, p1, p2, p3, p4, p5, p6, p7⟩ := (HS.out y hyn).on HB4.out
              rw [hyr] at p4
              have hyi : (y : Int) < (n : Int) := by omega
              have hk00 : (k : Int) > 0 := by omega
              have hk01 : (0 : Int) ≤ (k : Int) - 1 := by omega
              have hk02 : (k : Int) - 1 < ((L r).length : Int) := by omega
              have hk03 : ((k : Int) - 1).toNat = k - 1 := by omega
              have hk04 : IntKind.i64.wrap ((k : Int) - 1) = (k : Int) - 1 := wrap_in (by omega)
              have hk06 : (1 : Int) ≤ (k : Int) := by omega
              have hk07 : (k : Int) ≤ ((L r).length : Int) := by omega
              have hk08 : 1 ≤ k := by omega
              have hk09 : k - 1 < (L r).length := by omega
              have HLE : Hid (min (s.ay y) (s.by' y) ≤ min (s.ay x) (s.by' x)) := hle
              clear hy hyr hle
              have tok : True := trivial
              go_region_held3 (fun w' => w'.cell? ⟨ge, k - 1, none⟩ = some (.int .i64 (y : Int)) ∧ w'.cell? ⟨b, o + y * 8, none⟩ = some (.int .i64 (s.ax y)) ∧ w'.cell? ⟨b, o + y * 8 + 1, none⟩ = some (.int .i64 (s.ay y)) ∧ w'.cell? ⟨b, o + y * 8 + 2, none⟩ = some (.int .i64 (s.bx y)) ∧ w'.cell? ⟨b, o + y * 8 + 3, none⟩ = some (.int .i64 (s.by' y)) ∧ w'.cell? ⟨b, o + y * 8 + 4, none⟩ = some (.int .i64 (r : Int)) ∧ w'.cell? ⟨b, o + y * 8 + 5, none⟩ = some (.int .i64 (s.ix y)) ∧ w'.cell? ⟨b, o + y * 8 + 6, none⟩ = some (.float .f64 (s.t0 y)) ∧ w'.cell? ⟨b, o + y * 8 + 7, none⟩ = some (.float .f64 (s.t1 y)) ∧ w'.cell? ⟨b, o + x * 8, none⟩ = some (.int .i64 (s.ax x)) ∧ w'.cell? ⟨b, o + x * 8 + 1, none⟩ = some (.int .i64 (s.ay x)) ∧ w'.cell? ⟨b, o + x * 8 + 2, none⟩ = some (.int .i64 (s.bx x)) ∧ w'.cell? ⟨b, o + x * 8 + 3, none⟩ = some (.int .i64 (s.by' x)) ∧ w'.cell? ⟨b, o + x * 8 + 4, none⟩ = some (.int .i64 (r : Int)) ∧ w'.cell? ⟨b, o + x * 8 + 5, none⟩ = some (.int .i64 (s.ix x)) ∧ w'.cell? ⟨b, o + x * 8 + 6, none⟩ = some (.float .f64 (s.t0 x)) ∧ w'.cell? ⟨b, o + x * 8 + 7, none⟩ = some (.float .f64 (s.t1 x)))
                (first
                  | go_keep
                  | (go_split_ands; refine ⟨?_, ?_, ?_, ?_, ?_, ?_, ?_, ?_, ?_, ?_, ?_, ?_, ?_, ?_, ?_, ?_, ?_⟩ <;> (exact cell_on hb1 (by assumption))))
                (first
                  | (go_at_call 25; have _t := tok; refine (yKey_is (s.ax y) (s.ay y) (s.bx y) (s.by' y) (r : Int) (s.ix y) (s.t0 y) (s.t1 y) _).mono ?_; rintro e w5 ⟨rfl, hb1⟩; clear tok; have hb0 := hb1)
                  | (go_at_call 25; refine (yKey_is (s.ax x) (s.ay x) (s.bx x) (s.by' x) (r : Int) (s.ix x) (s.t0 x) (s.t1 x) _).mono ?_; rintro e w6 ⟨rfl, hb1⟩))
              all_goals
                go_wp2_with fail
                go_meet
                case rel => exact ⟨ret_b (decide_eq_false (by have := HLE.out; omega)), bthen (Below.refl _ _).drew (bthen hb0 hb1)⟩
          case rest =>
            obtain ⟨rfl, HG⟩ := hcut
            go_wp2_with fail
            go_roundw
            case rel => exact ⟨k + 1, by go_num, by omega, own_on H4.out HG.out, HB4.out.trans (HG.out.mono HB4.out.size)⟩
            case measure => simp [intOf]; omega
        · have hkL : k = (L r).length := by omega
          have H5 : Hid (wr.ownsRow wp.heap.size 4 1 (.slice (some ⟨wp.heap.size, 0, none⟩) n n) n (rowOf n (sF s L (r + 1) 0))) := by
            have h := H3.out
            rw [hkL, rowOf_congr (sF_ring HP.out)] at h
            exact h
          subst hkL
          have YC : Hid (∀ w', Below wp.heap.size wp w' → w'.cell? ⟨g, r * 7, none⟩ = some (.slice p' (L r).length c') ∧ w'.cell? ⟨g, r * 7 + 1, none⟩ = some (.int .i64 0) ∧ w'.cell? ⟨g, r * 7 + 2, none⟩ = some nilS ∧ w'.cell? ⟨g, r * 7 + 3, none⟩ = some (.int .i64 (bxs s r n 0)) ∧ w'.cell? ⟨g, r * 7 + 4, none⟩ = some (.int .i64 (bxs s r n 1)) ∧ w'.cell? ⟨g, r * 7 + 5, none⟩ = some (.int .i64 (bxs s r n 2)) ∧ w'.cell? ⟨g, r * 7 + 6, none⟩ = some (.int .i64 (bxs s r n 3))) := by
            intro w' hb
            have h := (HR.out.on hb).cells7 r hr
            rw [hE] at h
            exact h
          have TC : Hid (∀ w', Below wp.heap.size wp w' → w'.cell? ⟨b2, r, none⟩ = some (.int .i64 (bxs s r n 0)) ∧ w'.cell? ⟨b3, r, none⟩ = some (.int .i64 (bxs s r n 1)) ∧ w'.cell? ⟨b4, r, none⟩ = some (.int .i64 (bxs s r n 2)) ∧ w'.cell? ⟨b5, r, none⟩ = some (.int .i64 (bxs s r n 3))) := by
            intro w' hb
            have h := HT.out.on hb
            exact ⟨own_rowOf h.r2 (by omega) r (by omega), own_rowOf h.r3 (by omega) r (by omega), own_rowOf h.r4 (by omega) r (by omega), own_rowOf h.r5 (by omega) r (by omega)⟩
          clear H3
          obtain ⟨y0, y1, y2, y3, y4, y5, y6⟩ := YC.out _ HB3.out
          go_upto_region 60 with (first
            | (go_at_call 26; refine (ringNext_is p' (L r).length c' (bxs s r n 0) (bxs s r n 1) (bxs s r n 2) (bxs s r n 3) _).mono ?_; rintro e w5 ⟨rfl, hb⟩; have HB5 : Hid (Below wp.heap.size wp w5) := HB3.out.trans (hb.mono HB3.out.size); have H6 : Hid (w5.ownsRow wp.heap.size 4 1 (.slice (some ⟨wp.heap.size, 0, none⟩) n n) n (rowOf n (sF s L (r + 1) 0))) := own_on H5.out hb; clear hb; obtain ⟨y0, y1, y2, y3, y4, y5, y6⟩ := YC.out _ HB5.out)
            | (go_at_call 27; refine (ringActive_is p' (L r).length c' (bxs s r n 0) (bxs s r n 1) (bxs s r n 2) (bxs s r n 3) _).mono ?_; rintro e w6 ⟨rfl, hb⟩; have HB6 : Hid (Below wp.heap.size wp w6) := HB5.out.trans (hb.mono HB5.out.size); have H7 : Hid (w6.ownsRow wp.heap.size 4 1 (.slice (some ⟨wp.heap.size, 0, none⟩) n n) n (rowOf n (sF s L (r + 1) 0))) := own_on H6.out hb; clear hb; obtain ⟨y0, y1, y2, y3, y4, y5, y6⟩ := YC.out _ HB6.out)
            | (go_at_call 28; refine (ringBox_is p' (L r).length c' (bxs s r n 0) (bxs s r n 1) (bxs s r n 2) (bxs s r n 3) _).mono ?_; rintro e w7 ⟨rfl, hb⟩; have HB7 : Hid (Below wp.heap.size wp w7) := HB6.out.trans (hb.mono HB6.out.size); have H8 : Hid (w7.ownsRow wp.heap.size 4 1 (.slice (some ⟨wp.heap.size, 0, none⟩) n n) n (rowOf n (sF s L (r + 1) 0))) := own_on H7.out hb; clear hb))
          obtain ⟨a2, a3, a4, a5⟩ := TC.out _ HB7.out
          have hq := HT.out.on HB7.out
          have q2 := (hq.r2.lt b2 rfl).2
          have q3 := (hq.r3.lt b3 rfl).2
          have q4 := (hq.r4.lt b4 rfl).2
          have q5 := (hq.r5.lt b5 rfl).2
          clear hq
          have hn0 := boxes2 w7 (.int .i64 (bxs s r n 0)) (.int .i64 (bxs s r n 1)) (.int .i64 (bxs s r n 2)) (.int .i64 (bxs s r n 3)) 55 55
          have hb8 : Below w7.heap.size w7 ((w7.alloc (.cells #[.int .i64 (bxs s r n 0), .int .i64 (bxs s r n 1)] 55)).alloc (.cells #[.int .i64 (bxs s r n 2), .int .i64 (bxs s r n 3)] 55)) := ((Below.refl _ _).alloc (Nat.le_refl _) _).alloc (by simp) _
          have hs8 : ((w7.alloc (.cells #[.int .i64 (bxs s r n 0), .int .i64 (bxs s r n 1)] 55)).alloc (.cells #[.int .i64 (bxs s r n 2), .int .i64 (bxs s r n 3)] 55)).heap.size = w7.heap.size + 2 := by simp
          generalize ((w7.alloc (.cells #[.int .i64 (bxs s r n 0), .int .i64 (bxs s r n 1)] 55)).alloc (.cells #[.int .i64 (bxs s r n 2), .int .i64 (bxs s r n 3)] 55)) = w8 at hn0 hb8 hs8 ⊢
          obtain ⟨v0, v1, v2, v3⟩ := hn0
          have a2' := cell_on hb8 a2
          have a3' := cell_on hb8 a3
          have a4' := cell_on hb8 a4
          have a5' := cell_on hb8 a5
          have H9 : Hid (w8.ownsRow wp.heap.size 4 1 (.slice (some ⟨wp.heap.size, 0, none⟩) n n) n (rowOf n (sF s L (r + 1) 0))) := own_on H8.out hb8
          have HB9 : Hid (Below wp.heap.size wp w8) := HB7.out.trans (hb8.mono HB7.out.size)
          have k2 : b2 < w8.heap.size := by omega
          have k3 : b3 < w8.heap.size := by omega
          have k4 : b4 < w8.heap.size := by omega
          have k5 : b5 < w8.heap.size := by omega
          have k7 : w7.heap.size < w8.heap.size := by omega
          have k8 : w7.heap.size + 1 < w8.heap.size := by omega
          have hsz9 := HB9.out.size
          clear a2 a3 a4 a5 hs8 hb8 y0 y1 y2 y3 y4 y5 y6 q2 q3 q4 q5 H5 H6 H7 H8 HB3 HB5 HB6 HB7 YC TC
          have n2 := World.new_ne w8 _ a2'
          have n3 := World.new_ne w8 _ a3'
          go_cut [27] from 177 to 296 (fun p wx => ∃ q, p = .pointer (some ⟨q, 0, none⟩) ∧ w8.heap.size ≤ q ∧ Hid (wx.cell? ⟨q, 0, none⟩ = some (.int .i64 (bxs s r n 0)) ∧ wx.cell? ⟨q, 1, none⟩ = some (.int .i64 (bxs s r n 1))) ∧ Hid (Below w8.heap.size w8 wx))
          case first =>
            go_region_held3 (fun w' => w'.cell? ⟨b2, r, none⟩ = some (.int .i64 (bxs s r n 0)) ∧ w'.cell? ⟨b3, r, none⟩ = some (.int .i64 (bxs s r n 1)))
              (go_keep) (fail)
            all_goals
              go_wp2_with fail
              go_meet
              case rel => exact ⟨w8.heap.size, rfl, Nat.le_refl _, new_two w8 _ _ 55, ((Below.refl _ _).alloc (Nat.le_refl _) _).drew⟩
          case rest =>
            obtain ⟨q, rfl, hq, HQ, HB10⟩ := hcut
            clear n2 n3 a2' a3'
            have a4 := cell_on HB10.out a4'
            have a5 := cell_on HB10.out a5'
            have hs10 := HB10.out.size
            have hql : q < wc.heap.size := World.block_lt_of_cell? _ _ HQ.out.1
            have k4' : b4 < wc.heap.size := by omega
            have k5' : b5 < wc.heap.size := by omega
            have n4 := World.new_ne wc _ a4
            have n5 := World.new_ne wc _ a5
            rename World => wd
            go_wp2_with fail
            go_cut [28] from 177 to 296 (fun p wx => ∃ q', p = .pointer (some ⟨q', 0, none⟩) ∧ wd.heap.size ≤ q' ∧ Hid (wx.cell? ⟨q', 0, none⟩ = some (.int .i64 (bxs s r n 2)) ∧ wx.cell? ⟨q', 1, none⟩ = some (.int .i64 (bxs s r n 3))) ∧ Hid (Below wd.heap.size wd wx))
            case first =>
              go_region_held3 (fun w' => w'.cell? ⟨b4, r, none⟩ = some (.int .i64 (bxs s r n 2)) ∧ w'.cell? ⟨b5, r, none⟩ = some (.int .i64 (bxs s r n 3)))
                (go_keep) (fail)
              all_goals
                go_wp2_with fail
                go_meet
                case rel => exact ⟨wd.heap.size, rfl, Nat.le_refl _, new_two wd _ _ 55, ((Below.refl _ _).alloc (Nat.le_refl _) _).drew⟩
            case rest =>
              obtain ⟨q', rfl, hq', HQ', HB11⟩ := hcut
              have o0 := cell_on HB11.out (cell_on HB10.out v0)
              have o1 := cell_on HB11.out (cell_on HB10.out v1)
              have o2 := cell_on HB11.out (cell_on HB10.out v2)
              have o3 := cell_on HB11.out (cell_on HB10.out v3)
              have o4 := cell_on HB11.out HQ.out.1
              have o5 := cell_on HB11.out HQ.out.2
              have o6 := HQ'.out.1
              have o7 := HQ'.out.2
              clear v0 v1 v2 v3 a4 a5 a4' a5' n4 n5 k2 k3 k4 k5 k7 k8
              have H12 : Hid (wc.ownsRow wp.heap.size 4 1 (.slice (some ⟨wp.heap.size, 0, none⟩) n n) n (rowOf n (sF s L (r + 1) 0))) := own_on (own_on H9.out HB10.out) HB11.out
              have HB12 : Hid (Below wp.heap.size wp wc) := (HB9.out.trans (HB10.out.mono HB9.out.size)).trans (HB11.out.mono (Nat.le_trans HB9.out.size HB10.out.size))
              clear H9 HB9 HB10 HB11 HQ HQ'
              go_wp2_with fail
              go_roundw
              case rel => exact ⟨r + 1, by go_num, by omega, H12, HB12⟩
              case measure => simp [intOf]; omega
    · obtain rfl : r = M := by omega
      go_wp2_with fail
      exact HX.out _ _ _ _ _ _ _ _ _ _ _ _ _ _ _ _ _ _ _ _ _ _ _ _ _ _ _ _ _ _ _ _ _ _ _ _ _ _ _ _ _ _ _ _ _ _ _ _ _ _ _ _ _ _ _ _ _ _ _ _ _ _ _ _ _ _ _ _ _ _ _ _ _ _ _ _ _ _ _ _ _ _ _ _ _ _ _ _ _ _ _ _ _ _ _ _ _ _ _ _ _ _ _ _ _ _ _ _ _ _ _ _ _ _ _ _ _ _ _ _ _ _ _ _ _ _ _ _ _ _ HB1.out

end Go.Proofs.Qxb6609068a.Small
