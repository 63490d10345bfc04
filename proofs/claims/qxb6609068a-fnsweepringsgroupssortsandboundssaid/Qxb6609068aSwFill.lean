/-
  FnSweepRingsGroupsSortsAndBounds, its second loop: the law's own tables, as a declaration of its own.
-/
import Derived.Test.Qxb6609068aSwSmall
namespace Go.Proofs.Qxb6609068a.Small
open Go.ChangeShapes Go.WideShapes Go.ChangeAt Go.RowKit
set_option linter.unusedVariables false
set_option linter.unusedSimpArgs false
attribute [local go_sem ↓] Go.wp_at_zero Go.wp_at_succ
attribute [local go_sem] run_store_float

/-- the loops of a code, none of them inside another -/
def loopsOf : Code → List Code
  | .loop c => [.loop c]
  | .seq a b => loopsOf a ++ loopsOf b
  | .block _ c => loopsOf c
  | .scope c => loopsOf c
  | .cond _ a b => loopsOf a ++ loopsOf b
  | _ => []

/-- the law's six tables -/
structure Tab (base : Nat) (w : World) (M b0 b1 b2 b3 b4 b5 : Nat) (F0 F1 F2 F3 F4 F5 : Nat → Value) : Prop where
  r0 : w.ownsRow base 3 1 (.slice (some ⟨b0, 0, none⟩) M M) M (rowOf M F0)
  r1 : w.ownsRow base 4 1 (.slice (some ⟨b1, 0, none⟩) M M) M (rowOf M F1)
  r2 : w.ownsRow base 2 1 (.slice (some ⟨b2, 0, none⟩) M M) M (rowOf M F2)
  r3 : w.ownsRow base 2 1 (.slice (some ⟨b3, 0, none⟩) M M) M (rowOf M F3)
  r4 : w.ownsRow base 2 1 (.slice (some ⟨b4, 0, none⟩) M M) M (rowOf M F4)
  r5 : w.ownsRow base 2 1 (.slice (some ⟨b5, 0, none⟩) M M) M (rowOf M F5)

theorem Tab.on {base : Nat} {w w' : World} {M b0 b1 b2 b3 b4 b5 : Nat} {F0 F1 F2 F3 F4 F5 : Nat → Value} (h : Tab base w M b0 b1 b2 b3 b4 b5 F0 F1 F2 F3 F4 F5) (hb : Below w.heap.size w w') : Tab base w' M b0 b1 b2 b3 b4 b5 F0 F1 F2 F3 F4 F5 :=
  ⟨own_on h.r0 hb, own_on h.r1 hb, own_on h.r2 hb, own_on h.r3 hb, own_on h.r4 hb, own_on h.r5 hb⟩

theorem own_other {w : World} {base : Nat} {e : TypeId} {size g n cap : Nat} {xs : List Value} (h : w.ownsRow base e size (.slice (some ⟨g, 0, none⟩) n cap) n xs) (g' o : Nat) (u : Value) (hne : g ≠ g') : (w.setCell ⟨g', o, none⟩ u).ownsRow base e size (.slice (some ⟨g, 0, none⟩) n cap) n xs :=
  h.kept (setCell_grown w g' o u) (.inr (by simp [Value.ownBlock]; exact hne))

theorem segat_under {w w' : World} {b o base i : Nat} {s : Segs} (h : SegAt w b o s i) (hb : Below base w w') (hle : w.heap.size ≤ base) : SegAt w' b o s i := by
  obtain ⟨h0, h1, h2, h3, h4, h5, h6, h7⟩ := h
  have hlt : b < base := Nat.lt_of_lt_of_le (World.block_lt_of_cell? _ _ h0) hle
  exact ⟨by rw [hb.cell hlt]; exact h0, by rw [hb.cell hlt]; exact h1, by rw [hb.cell hlt]; exact h2, by rw [hb.cell hlt]; exact h3, by rw [hb.cell hlt]; exact h4, by rw [hb.cell hlt]; exact h5, by rw [hb.cell hlt]; exact h6, by rw [hb.cell hlt]; exact h7⟩

/-- what the tables hold after the first k segments -/
def cF (s : Segs) (k : Nat) : Nat → Value := fun r => .int .i64 (((es s.rg r k).length : Nat) : Int)
def hF (s : Segs) (k : Nat) : Nat → Value := fun r => .bool (decide (0 < (es s.rg r k).length))
def xF (s : Segs) (k t : Nat) : Nat → Value := fun r => .int .i64 (bxs s r k t)

theorem cF_next {s : Segs} {k r : Nat} (hr : s.rg k = (r : Int)) (i : Nat) : (if i = r then .int .i64 (((es s.rg r k).length : Int) + 1) else cF s k i) = cF s (k + 1) i := by
  by_cases h : i = r
  · subst h
    rw [if_pos rfl, cF, es, if_pos hr]; simp
  · rw [if_neg h, cF, cF, es, if_neg (by omega)]
theorem hF_new {s : Segs} {k r : Nat} (hr : s.rg k = (r : Int)) (i : Nat) : (if i = r then .bool true else hF s k i) = hF s (k + 1) i := by
  by_cases h : i = r
  · subst h
    rw [if_pos rfl, hF, es, if_pos hr]; simp
  · rw [if_neg h, hF, hF, es, if_neg (by omega)]
theorem hF_old {s : Segs} {k r : Nat} (hr : s.rg k = (r : Int)) (hem : ¬ es s.rg r k = []) (i : Nat) : hF s k i = hF s (k + 1) i := by
  by_cases h : i = r
  · subst h
    have : 0 < (es s.rg i k).length := List.length_pos_iff.2 hem
    rw [hF, hF, es, if_pos hr]
    simp [this]
  · rw [hF, hF, es, if_neg (by omega)]
theorem xF_next {s : Segs} {k r t : Nat} {z : Int} (hr : s.rg k = (r : Int)) (hz : z = comb s k t (if es s.rg r k = [] then fst4 s k t else bxs s r k t)) (i : Nat) : (if i = r then .int .i64 z else xF s k t i) = xF s (k + 1) t i := by
  by_cases h : i = r
  · subst h
    rw [if_pos rfl, xF, bxs, if_pos hr, hz]
  · rw [if_neg h, xF, xF, bxs, if_neg (by omega)]

theorem own_next {w : World} {base e g m : Nat} {F G : Nat → Value} {r : Nat} {u : Value} (h : w.ownsRow base e 1 (.slice (some ⟨g, 0, none⟩) m m) m (rowOf m F)) (hu : ∀ i, (if i = r then u else F i) = G i) : (w.setCell ⟨g, r, none⟩ u).ownsRow base e 1 (.slice (some ⟨g, 0, none⟩) m m) m (rowOf m G) := by
  rw [← rowOf_congr fun j _ => hu j]
  exact own_put h r u

theorem Tab.new {base : Nat} {w : World} {M b0 b1 b2 b3 b4 b5 k r : Nat} {s : Segs} {x0 x1 x2 x3 : Int} (o : Obj) (h : Tab base w M b0 b1 b2 b3 b4 b5 (cF s k) (hF s k) (xF s k 0) (xF s k 1) (xF s k 2) (xF s k 3)) (h01 : b0 < b1) (h12 : b1 < b2) (h23 : b2 < b3) (h34 : b3 < b4) (h45 : b4 < b5) (hr : s.rg k = (r : Int)) (hem : es s.rg r k = [])
    (e0 : x0 = min (s.ax k) (s.bx k)) (e1 : x1 = min (s.ay k) (s.by' k)) (e2 : x2 = max (s.ax k) (s.bx k)) (e3 : x3 = max (s.ay k) (s.by' k)) :
    Tab base (((((((w.setCell ⟨b0, r, none⟩ (.int .i64 (((es s.rg r k).length : Int) + 1))).setCell ⟨b1, r, none⟩ (.bool true)).setCell ⟨b2, r, none⟩ (.int .i64 x0)).setCell ⟨b3, r, none⟩ (.int .i64 x1)).setCell ⟨b4, r, none⟩ (.int .i64 x2)).setCell ⟨b5, r, none⟩ (.int .i64 x3)).alloc o) M b0 b1 b2 b3 b4 b5 (cF s (k + 1)) (hF s (k + 1)) (xF s (k + 1) 0) (xF s (k + 1) 1) (xF s (k + 1) 2) (xF s (k + 1) 3) := by
  refine ⟨?_, ?_, ?_, ?_, ?_, ?_⟩
  · exact (own_other (own_other (own_other (own_other (own_other (own_next h.r0 (cF_next hr)) _ _ _ (by omega)) _ _ _ (by omega)) _ _ _ (by omega)) _ _ _ (by omega)) _ _ _ (by omega)).alloc o
  · exact (own_other (own_other (own_other (own_other (own_next (own_other h.r1 _ _ _ (by omega)) (hF_new hr)) _ _ _ (by omega)) _ _ _ (by omega)) _ _ _ (by omega)) _ _ _ (by omega)).alloc o
  · exact (own_other (own_other (own_other (own_next (own_other (own_other h.r2 _ _ _ (by omega)) _ _ _ (by omega)) (xF_next hr (by rw [if_pos hem]; simp only [comb, fst4]; omega))) _ _ _ (by omega)) _ _ _ (by omega)) _ _ _ (by omega)).alloc o
  · exact (own_other (own_other (own_next (own_other (own_other (own_other h.r3 _ _ _ (by omega)) _ _ _ (by omega)) _ _ _ (by omega)) (xF_next hr (by rw [if_pos hem]; simp only [comb, fst4]; omega))) _ _ _ (by omega)) _ _ _ (by omega)).alloc o
  · exact (own_other (own_next (own_other (own_other (own_other (own_other h.r4 _ _ _ (by omega)) _ _ _ (by omega)) _ _ _ (by omega)) _ _ _ (by omega)) (xF_next hr (by rw [if_pos hem]; simp only [comb, fst4]; omega))) _ _ _ (by omega)).alloc o
  · exact (own_next (own_other (own_other (own_other (own_other (own_other h.r5 _ _ _ (by omega)) _ _ _ (by omega)) _ _ _ (by omega)) _ _ _ (by omega)) _ _ _ (by omega)) (xF_next hr (by rw [if_pos hem]; simp only [comb, fst4]; omega))).alloc o

theorem Tab.old {base : Nat} {w : World} {M b0 b1 b2 b3 b4 b5 k r : Nat} {s : Segs} {x0 x1 x2 x3 : Int} (o : Obj) (h : Tab base w M b0 b1 b2 b3 b4 b5 (cF s k) (hF s k) (xF s k 0) (xF s k 1) (xF s k 2) (xF s k 3)) (h01 : b0 < b1) (h12 : b1 < b2) (h23 : b2 < b3) (h34 : b3 < b4) (h45 : b4 < b5) (hr : s.rg k = (r : Int)) (hem : ¬ es s.rg r k = [])
    (e0 : x0 = min (bxs s r k 0) (min (s.ax k) (s.bx k))) (e1 : x1 = min (bxs s r k 1) (min (s.ay k) (s.by' k))) (e2 : x2 = max (bxs s r k 2) (max (s.ax k) (s.bx k))) (e3 : x3 = max (bxs s r k 3) (max (s.ay k) (s.by' k))) :
    Tab base ((((((w.setCell ⟨b0, r, none⟩ (.int .i64 (((es s.rg r k).length : Int) + 1))).setCell ⟨b2, r, none⟩ (.int .i64 x0)).setCell ⟨b3, r, none⟩ (.int .i64 x1)).setCell ⟨b4, r, none⟩ (.int .i64 x2)).setCell ⟨b5, r, none⟩ (.int .i64 x3)).alloc o) M b0 b1 b2 b3 b4 b5 (cF s (k + 1)) (hF s (k + 1)) (xF s (k + 1) 0) (xF s (k + 1) 1) (xF s (k + 1) 2) (xF s (k + 1) 3) := by
  refine ⟨?_, ?_, ?_, ?_, ?_, ?_⟩
  · exact (own_other (own_other (own_other (own_other (own_next h.r0 (cF_next hr)) _ _ _ (by omega)) _ _ _ (by omega)) _ _ _ (by omega)) _ _ _ (by omega)).alloc o
  · rw [← rowOf_congr fun j _ => hF_old hr hem j]
    exact (own_other (own_other (own_other (own_other (own_other h.r1 _ _ _ (by omega)) _ _ _ (by omega)) _ _ _ (by omega)) _ _ _ (by omega)) _ _ _ (by omega)).alloc o
  · exact (own_other (own_other (own_other (own_next (own_other h.r2 _ _ _ (by omega)) (xF_next hr (by rw [if_neg hem]; simp only [comb]; omega))) _ _ _ (by omega)) _ _ _ (by omega)) _ _ _ (by omega)).alloc o
  · exact (own_other (own_other (own_next (own_other (own_other h.r3 _ _ _ (by omega)) _ _ _ (by omega)) (xF_next hr (by rw [if_neg hem]; simp only [comb]; omega))) _ _ _ (by omega)) _ _ _ (by omega)).alloc o
  · exact (own_other (own_next (own_other (own_other (own_other h.r4 _ _ _ (by omega)) _ _ _ (by omega)) _ _ _ (by omega)) (xF_next hr (by rw [if_neg hem]; simp only [comb]; omega))) _ _ _ (by omega)).alloc o
  · exact (own_next (own_other (own_other (own_other (own_other h.r5 _ _ _ (by omega)) _ _ _ (by omega)) _ _ _ (by omega)) _ _ _ (by omega)) (xF_next hr (by rw [if_neg hem]; simp only [comb]; omega))).alloc o

set_option maxRecDepth 1000000 in
set_option maxHeartbeats 40000000 in
theorem law_fill (b o n c M base b0 b1 b2 b3 b4 b5 : Nat) (s : Segs) (w wc : World) (hn : n ≤ 8192) (HS : Hid (∀ i, i < n → SegAt w b o s i)) (HRG : Hid (∀ k, k < n → 0 ≤ s.rg k ∧ s.rg k < 65536)) (htl : M ≤ 65536) (HM : Hid (∀ k, k < n → s.rg k < (M : Int)))
    (hbase : w.heap.size ≤ base) (hb0 : base ≤ b0) (h01 : b0 < b1) (h12 : b1 < b2) (h23 : b2 < b3) (h34 : b3 < b4) (h45 : b4 < b5)
    (HT : Hid (Tab base wc M b0 b1 b2 b3 b4 b5 (cF s 0) (hF s 0) (xF s 0 0) (xF s 0 1) (xF s 0 2) (xF s 0 3))) (HB : Hid (Below base w wc))
    (Q0 : Exit → Act → World → Prop) (u1 u2 u3 u5 u13 u14 u15 u16 u17 u18 u19 u20 u21 u22 u23 u24 u25 u26 u27 u28 u29 u30 u31 u32 u33 u34 u35 u36 u37 u38 u39 u40 u41 u42 u43 u44 u45 u46 u47 u48 u49 u50 u51 u52 u53 u54 u55 u56 u57 u58 u59 u60 u61 u62 u63 u64 u65 u66 u67 u68 u69 u70 u71 u72 u73 u74 u75 u76 u77 u78 u79 u80 u81 u82 u83 u84 u85 u86 u87 u88 u89 u90 u91 u92 u93 u94 u95 u96 u97 u98 u99 u100 u101 u102 u103 u104 u105 u106 u107 u108 u109 u110 u111 u112 u113 u114 u115 u116 u117 u118 u119 u120 u121 u122 u123 u124 u125 u126 u127 u128 u129 u130 u131 u132 u133 u134 u135 u136 u137 u138 u139 u140 u141 u142 u143 u144 u145 u146 u147 u148 u149 u150 u151 u152 u153 u154 u155 u156 u157 u158 u159 u160 u161 u162 u163 u164 u165 u166 u167 u168 u169 u170 u171 u172 u173 u174 u175 u176 u177 u178 u179 u180 u181 u182 u183 u184 u185 u186 u187 u188 u189 u190 u191 u192 u193 u194 u195 u196 u197 u198 u199 u200 u201 u202 u203 u204 u205 u206 u207 u208 u209 u210 u211 u212 u213 u214 u215 u216 u217 u218 u219 u220 u221 u222 u223 u224 u225 u226 u227 u228 u229 u230 u231 u232 u233 u234 u235 u236 u237 u238 u239 u240 u241 u242 u243 u244 u245 u246 u247 u248 u249 u250 u251 u252 u253 u254 u255 u256 u257 u258 u259 u260 u261 u262 u263 u264 u265 u266 u267 u268 u269 u270 u271 u272 u273 u274 u275 u276 u277 u278 u279 u280 u281 u282 u283 u284 u285 u286 u287 u288 u289 u290 u291 u292 u293 u294 u295 u296 : Value)
    (HX : Hid (∀ (z12 z13 z14 z15 z16 z17 z18 z71 z72 z73 z74 z75 z76 z77 z78 z79 z80 z81 z82 z83 z84 z85 z86 z87 z88 z89 z90 z91 z92 z93 z94 z95 z96 z97 z98 z99 z100 z101 z102 z103 z104 z105 z106 z107 z108 z109 z110 z111 z112 z113 z114 z115 z116 z117 z118 z119 z120 z121 z122 z123 z124 z125 z126 z127 z128 z129 z130 z131 z132 z133 z134 z135 z136 z137 z138 z139 z140 z141 z142 z143 z144 z145 z146 z147 z148 z149 z150 z151 z152 z153 z154 z155 z156 z157 z158 z159 z160 z161 z162 z163 z164 z165 z166 z167 : Value) (wr : World), Tab base wr M b0 b1 b2 b3 b4 b5 (cF s n) (hF s n) (xF s n 0) (xF s n 1) (xF s n 2) (xF s n 3) → Below base w wr → Q0 (.exit 2) ⟨List.toArray (((.slice (some ⟨b, o, none⟩) n c : Value)) :: u1 :: u2 :: u3 :: ((.int .i64 n : Value)) :: u5 :: ((.slice (some ⟨b0, 0, none⟩) M M : Value)) :: ((.slice (some ⟨b1, 0, none⟩) M M : Value)) :: ((.slice (some ⟨b2, 0, none⟩) M M : Value)) :: ((.slice (some ⟨b3, 0, none⟩) M M : Value)) :: ((.slice (some ⟨b4, 0, none⟩) M M : Value)) :: ((.slice (some ⟨b5, 0, none⟩) M M : Value)) :: z12 :: z13 :: z14 :: z15 :: z16 :: z17 :: z18 :: u19 :: u20 :: u21 :: u22 :: u23 :: u24 :: u25 :: u26 :: u27 :: u28 :: u29 :: u30 :: u31 :: u32 :: u33 :: u34 :: u35 :: u36 :: u37 :: u38 :: u39 :: u40 :: u41 :: u42 :: u43 :: u44 :: u45 :: u46 :: u47 :: u48 :: u49 :: u50 :: u51 :: u52 :: u53 :: u54 :: u55 :: u56 :: u57 :: u58 :: u59 :: u60 :: u61 :: u62 :: u63 :: u64 :: u65 :: u66 :: u67 :: u68 :: u69 :: u70 :: z71 :: z72 :: z73 :: z74 :: z75 :: z76 :: z77 :: z78 :: z79 :: z80 :: z81 :: z82 :: z83 :: z84 :: z85 :: z86 :: z87 :: z88 :: z89 :: z90 :: z91 :: z92 :: z93 :: z94 :: z95 :: z96 :: z97 :: z98 :: z99 :: z100 :: z101 :: z102 :: z103 :: z104 :: z105 :: z106 :: z107 :: z108 :: z109 :: z110 :: z111 :: z112 :: z113 :: z114 :: z115 :: z116 :: z117 :: z118 :: z119 :: z120 :: z121 :: z122 :: z123 :: z124 :: z125 :: z126 :: z127 :: z128 :: z129 :: z130 :: z131 :: z132 :: z133 :: z134 :: z135 :: z136 :: z137 :: z138 :: z139 :: z140 :: z141 :: z142 :: z143 :: z144 :: z145 :: z146 :: z147 :: z148 :: z149 :: z150 :: z151 :: z152 :: z153 :: z154 :: z155 :: z156 :: z157 :: z158 :: z159 :: z160 :: z161 :: z162 :: z163 :: z164 :: z165 :: z166 :: z167 :: u168 :: u169 :: u170 :: u171 :: u172 :: u173 :: u174 :: u175 :: u176 :: u177 :: u178 :: u179 :: u180 :: u181 :: u182 :: u183 :: u184 :: u185 :: u186 :: u187 :: u188 :: u189 :: u190 :: u191 :: u192 :: u193 :: u194 :: u195 :: u196 :: u197 :: u198 :: u199 :: u200 :: u201 :: u202 :: u203 :: u204 :: u205 :: u206 :: u207 :: u208 :: u209 :: u210 :: u211 :: u212 :: u213 :: u214 :: u215 :: u216 :: u217 :: u218 :: u219 :: u220 :: u221 :: u222 :: u223 :: u224 :: u225 :: u226 :: u227 :: u228 :: u229 :: u230 :: u231 :: u232 :: u233 :: u234 :: u235 :: u236 :: u237 :: u238 :: u239 :: u240 :: u241 :: u242 :: u243 :: u244 :: u245 :: u246 :: u247 :: u248 :: u249 :: u250 :: u251 :: u252 :: u253 :: u254 :: u255 :: u256 :: u257 :: u258 :: u259 :: u260 :: u261 :: u262 :: u263 :: u264 :: u265 :: u266 :: u267 :: u268 :: u269 :: u270 :: u271 :: u272 :: u273 :: u274 :: u275 :: u276 :: u277 :: u278 :: u279 :: u280 :: u281 :: u282 :: u283 :: u284 :: u285 :: u286 :: u287 :: u288 :: u289 :: u290 :: u291 :: u292 :: u293 :: u294 :: u295 :: u296 :: []), []⟩ wr)) :
    Code.wp Try.prog (((Try.f7.body.map loopsOf).getD []).getD 1 .skip) Q0 ⟨List.toArray (((.slice (some ⟨b, o, none⟩) n c : Value)) :: u1 :: u2 :: u3 :: ((.int .i64 n : Value)) :: u5 :: ((.slice (some ⟨b0, 0, none⟩) M M : Value)) :: ((.slice (some ⟨b1, 0, none⟩) M M : Value)) :: ((.slice (some ⟨b2, 0, none⟩) M M : Value)) :: ((.slice (some ⟨b3, 0, none⟩) M M : Value)) :: ((.slice (some ⟨b4, 0, none⟩) M M : Value)) :: ((.slice (some ⟨b5, 0, none⟩) M M : Value)) :: ((.int .i64 0 : Value)) :: u13 :: u14 :: u15 :: u16 :: u17 :: u18 :: u19 :: u20 :: u21 :: u22 :: u23 :: u24 :: u25 :: u26 :: u27 :: u28 :: u29 :: u30 :: u31 :: u32 :: u33 :: u34 :: u35 :: u36 :: u37 :: u38 :: u39 :: u40 :: u41 :: u42 :: u43 :: u44 :: u45 :: u46 :: u47 :: u48 :: u49 :: u50 :: u51 :: u52 :: u53 :: u54 :: u55 :: u56 :: u57 :: u58 :: u59 :: u60 :: u61 :: u62 :: u63 :: u64 :: u65 :: u66 :: u67 :: u68 :: u69 :: u70 :: u71 :: u72 :: u73 :: u74 :: u75 :: u76 :: u77 :: u78 :: u79 :: u80 :: u81 :: u82 :: u83 :: u84 :: u85 :: u86 :: u87 :: u88 :: u89 :: u90 :: u91 :: u92 :: u93 :: u94 :: u95 :: u96 :: u97 :: u98 :: u99 :: u100 :: u101 :: u102 :: u103 :: u104 :: u105 :: u106 :: u107 :: u108 :: u109 :: u110 :: u111 :: u112 :: u113 :: u114 :: u115 :: u116 :: u117 :: u118 :: u119 :: u120 :: u121 :: u122 :: u123 :: u124 :: u125 :: u126 :: u127 :: u128 :: u129 :: u130 :: u131 :: u132 :: u133 :: u134 :: u135 :: u136 :: u137 :: u138 :: u139 :: u140 :: u141 :: u142 :: u143 :: u144 :: u145 :: u146 :: u147 :: u148 :: u149 :: u150 :: u151 :: u152 :: u153 :: u154 :: u155 :: u156 :: u157 :: u158 :: u159 :: u160 :: u161 :: u162 :: u163 :: u164 :: u165 :: u166 :: u167 :: u168 :: u169 :: u170 :: u171 :: u172 :: u173 :: u174 :: u175 :: u176 :: u177 :: u178 :: u179 :: u180 :: u181 :: u182 :: u183 :: u184 :: u185 :: u186 :: u187 :: u188 :: u189 :: u190 :: u191 :: u192 :: u193 :: u194 :: u195 :: u196 :: u197 :: u198 :: u199 :: u200 :: u201 :: u202 :: u203 :: u204 :: u205 :: u206 :: u207 :: u208 :: u209 :: u210 :: u211 :: u212 :: u213 :: u214 :: u215 :: u216 :: u217 :: u218 :: u219 :: u220 :: u221 :: u222 :: u223 :: u224 :: u225 :: u226 :: u227 :: u228 :: u229 :: u230 :: u231 :: u232 :: u233 :: u234 :: u235 :: u236 :: u237 :: u238 :: u239 :: u240 :: u241 :: u242 :: u243 :: u244 :: u245 :: u246 :: u247 :: u248 :: u249 :: u250 :: u251 :: u252 :: u253 :: u254 :: u255 :: u256 :: u257 :: u258 :: u259 :: u260 :: u261 :: u262 :: u263 :: u264 :: u265 :: u266 :: u267 :: u268 :: u269 :: u270 :: u271 :: u272 :: u273 :: u274 :: u275 :: u276 :: u277 :: u278 :: u279 :: u280 :: u281 :: u282 :: u283 :: u284 :: u285 :: u286 :: u287 :: u288 :: u289 :: u290 :: u291 :: u292 :: u293 :: u294 :: u295 :: u296 :: []), []⟩ wc := by
  conv => arg 2; whnf
  go_loopw [12] (fun i' wr => ∃ k : Nat, i' = .int .i64 k ∧ k ≤ n ∧ Hid (Tab base wr M b0 b1 b2 b3 b4 b5 (cF s k) (hF s k) (xF s k 0) (xF s k 1) (xF s k 2) (xF s k 3)) ∧ Hid (Below base w wr)) (fun i' _ => n - (intOf i').toNat)
  case atStart => exact ⟨0, rfl, Nat.zero_le _, HT, HB⟩
  case round =>
    obtain ⟨k, rfl, hkn, HT1, HB1⟩ := hrel
    clear HT HB
    by_cases hlt : k < n
    · obtain ⟨c0, c1, c2, c3, c4, c5, c6, c7⟩ := segat_under (HS.out k hlt) HB1.out hbase
      obtain ⟨r, hr⟩ : ∃ r : Nat, s.rg k = (r : Int) := ⟨(s.rg k).toNat, by have := HRG.out k hlt; omega⟩
      have hrM : r < M := by have := HM.out k hlt; omega
      have hrMi : (r : Int) < (M : Int) := by omega
      rw [hr] at c4
      have HRR : Hid (s.rg k = (r : Int)) := hr
      clear hr
      have hel := es_len (rg := s.rg) (k := r) k
      have z0 := own_rowOf HT1.out.r0 (by omega) r (by omega)
      have z1 := own_rowOf HT1.out.r1 (by omega) r (by omega)
      have z2 := own_rowOf HT1.out.r2 (by omega) r (by omega)
      have z3 := own_rowOf HT1.out.r3 (by omega) r (by omega)
      have z4 := own_rowOf HT1.out.r4 (by omega) r (by omega)
      have z5 := own_rowOf HT1.out.r5 (by omega) r (by omega)
      simp only [cF, hF, xF] at z0 z1 z2 z3 z4 z5
      have g0 := HT1.out.r0.frozenAt r
      have g1 := HT1.out.r1.frozenAt r
      have g2 := HT1.out.r2.frozenAt r
      have g3 := HT1.out.r3.frozenAt r
      have g4 := HT1.out.r4.frozenAt r
      have g5 := HT1.out.r5.frozenAt r
      have q5 := (HT1.out.r5.lt b5 rfl).2
      have k1 : base ≤ b1 := by omega
      have k2 : base ≤ b2 := by omega
      have k3 : base ≤ b3 := by omega
      have k4 : base ≤ b4 := by omega
      have k5 : base ≤ b5 := by omega
      have q0 : b0 < wr.heap.size := by omega
      have q1 : b1 < wr.heap.size := by omega
      have q2 : b2 < wr.heap.size := by omega
      have q3 : b3 < wr.heap.size := by omega
      have q4 : b4 < wr.heap.size := by omega
      have hsz := HB1.out.size
      by_cases hem : es s.rg r k = []
      · have hl0 : decide (0 < (es s.rg r k).length) = false := by rw [hem]; rfl
        rw [hl0] at z1
        have HEM : Hid (es s.rg r k = []) := hem
        clear hem hl0
        go_wp2_with fail
        go_roundw
        case rel => exact ⟨k + 1, by go_num, by omega, HT1.out.new _ h01 h12 h23 h34 h45 HRR.out HEM.out rfl rfl rfl rfl, ((((((HB1.out.setCell hb0 _).setCell k1 _).setCell k2 _).setCell k3 _).setCell k4 _).setCell k5 _).alloc (by simp; omega) _⟩
        case measure => simp [intOf]; omega
      · have hl0 : decide (0 < (es s.rg r k).length) = true := decide_eq_true (List.length_pos_iff.2 hem)
        rw [hl0] at z1
        have HEM : Hid (¬ es s.rg r k = []) := hem
        clear hem hl0
        go_wp2_with fail
        go_roundw
        case rel => exact ⟨k + 1, by go_num, by omega, HT1.out.old _ h01 h12 h23 h34 h45 HRR.out HEM.out rfl rfl rfl rfl, (((((HB1.out.setCell hb0 _).setCell k2 _).setCell k3 _).setCell k4 _).setCell k5 _).alloc (by simp; omega) _⟩
        case measure => simp [intOf]; omega
    · obtain rfl : k = n := by omega
      go_wp2_with fail
      exact HX.out _ _ _ _ _ _ _ _ _ _ _ _ _ _ _ _ _ _ _ _ _ _ _ _ _ _ _ _ _ _ _ _ _ _ _ _ _ _ _ _ _ _ _ _ _ _ _ _ _ _ _ _ _ _ _ _ _ _ _ _ _ _ _ _ _ _ _ _ _ _ _ _ _ _ _ _ _ _ _ _ _ _ _ _ _ _ _ _ _ _ _ _ _ _ _ _ _ _ _ _ _ _ _ _ _ HT1.out HB1.out

end Go.Proofs.Qxb6609068a.Small
