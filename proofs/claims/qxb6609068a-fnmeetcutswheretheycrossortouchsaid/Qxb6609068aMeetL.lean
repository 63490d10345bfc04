/-
  THE LOOP of meet over the four candidates, as a declaration of its own.
-/
import Derived.Test.Qxb6609068aOwn
import Derived.Deep.RegionHeld3
import Derived.Deep.DrawnRows
import Derived.Deep.QuietTactic
import Derived.BigQuiet
import Derived.Deep.DeepCutAuto
import Derived.Deep.AppendLies
import Derived.Deep.LoopGhost
namespace Go.Proofs.Qxb6609068a.Small
open Go.ChangeShapes Go.WideShapes Go.ChangeAt Go.RowKit
open Fl (eB roundBits)
set_option linter.unusedVariables false
attribute [local go_sem ↓] Go.wp_at_zero Go.wp_at_succ


/-- the first loop of a code, the loop itself with it -/
def theLoop : Code → Option Code
  | .loop c => some (.loop c)
  | .seq a b => match theLoop a with
    | some c => some c
    | none => theLoop b
  | .block _ c => theLoop c
  | .scope c => theLoop c
  | .cond _ a b => match theLoop a with
    | some c => some c
    | none => theLoop b
  | _ => none

set_option maxRecDepth 1000000 in
set_option maxHeartbeats 40000000 in
theorem cand_loop (be lo hi : Nat) (tx ty eax eay ebx eby fax fay fbx fby d1 d2 d3 d4 : Int) (base : Nat) (v0 : Value) (n : Nat) (xs : List Value) (w wc : World)
    (HE : Hid (EdgeAt w be lo eax eay ebx eby)) (HF : Hid (EdgeAt w be hi fax fay fbx fby))
    (r0 : -536870912 ≤ eax - tx ∧ eax - tx ≤ 536870912) (r1 : -536870912 ≤ eay - ty ∧ eay - ty ≤ 536870912) (r2 : -536870912 ≤ ebx - tx ∧ ebx - tx ≤ 536870912) (r3 : -536870912 ≤ eby - ty ∧ eby - ty ≤ 536870912)
    (r4 : -536870912 ≤ fax - tx ∧ fax - tx ≤ 536870912) (r5 : -536870912 ≤ fay - ty ∧ fay - ty ≤ 536870912) (r6 : -536870912 ≤ fbx - tx ∧ fbx - tx ≤ 536870912) (r7 : -536870912 ≤ fby - ty ∧ fby - ty ≤ 536870912)
    (HO : Hid (w.ownsRow base 66 3 v0 n xs)) (hbase : base ≤ w.heap.size) (hn : n ≤ 65536) (hbe : be < base) (g : Nat) (hg : w.heap.size ≤ g)
    (HG : Hid (wc.heap[g]? = some (.cells (candArr be lo hi eax eay ebx eby fax fay fbx fby d1 d2 d3 d4) 79 (0, 0)))) (HB2 : Hid (Below w.heap.size w wc))
    (Q0 : Exit → Act → World → Prop) (u0 u1 u2 u4 u5 u6 u7 u8 u9 u10 u11 u12 u13 u14 u15 u16 u17 u18 u19 u20 u21 u22 u23 u24 u25 u26 u27 u28 u29 u30 u31 u32 u33 u34 u35 u36 u37 u38 u39 u40 u41 u42 u43 u44 u45 u46 u47 u48 u49 u50 u51 u52 u53 u54 u55 u56 u57 u58 u59 u60 u61 u62 u63 u64 u65 u66 u67 u68 u69 u70 u71 u72 u73 u74 u75 u76 u77 u78 u79 u80 u81 u82 u83 u84 u85 u86 u87 u88 u89 u90 u91 u92 u93 u94 u95 u96 u97 u98 u99 u100 u101 u102 u103 u104 u105 u106 u107 u108 u109 u110 u111 u112 u113 u114 u115 u116 u117 u118 u119 u120 u121 u122 u123 u124 u125 u126 u127 u128 u129 u130 u131 u132 u133 u134 u135 u136 u137 u138 u139 u140 u141 u142 u143 u144 u145 u146 u147 u148 u149 u150 u151 u152 u153 u154 u155 u156 u157 u158 u159 u160 u161 u162 u163 u164 u165 u166 u167 u168 u169 u170 u171 u172 u173 u174 u175 u176 u177 u178 u179 u180 u181 u182 u183 u184 u185 u186 u187 u188 u189 u190 u191 u192 u193 u194 u195 u196 u197 u198 u199 u200 u201 u202 u203 u204 u208 u209 u210 u211 u212 u213 u214 u215 u216 u217 u218 u219 u220 u221 u222 u223 u224 u225 u226 u227 u228 u229 u230 u231 u232 u233 u234 u235 u236 u237 u238 : Value)
    (HX : Hid (∀ (c : Value) (z18 z207 z208 z209 z210 z211 z212 z213 z214 z215 z216 z217 z218 z219 z220 z221 z222 z223 z224 z225 z226 z227 z228 z229 z230 z231 z232 z233 z234 z235 z236 z237 : Value) (wr : World), wr.ownsRow base 66 3 c (n + (candK lo hi eax eay ebx eby fax fay fbx fby d1 d2 d3 d4 4).length) (xs ++ cutCells (candK lo hi eax eay ebx eby fax fay fbx fby d1 d2 d3 d4 4)) → Below base w wr → Q0 (.exit 0) ⟨List.toArray (u0 :: u1 :: u2 :: c :: u4 :: u5 :: u6 :: u7 :: u8 :: u9 :: u10 :: u11 :: u12 :: u13 :: u14 :: u15 :: u16 :: u17 :: z18 :: u19 :: u20 :: u21 :: u22 :: u23 :: u24 :: u25 :: u26 :: u27 :: u28 :: u29 :: u30 :: u31 :: u32 :: u33 :: u34 :: u35 :: u36 :: u37 :: u38 :: u39 :: u40 :: u41 :: u42 :: u43 :: u44 :: u45 :: u46 :: u47 :: u48 :: u49 :: u50 :: u51 :: u52 :: u53 :: u54 :: u55 :: u56 :: u57 :: u58 :: u59 :: u60 :: u61 :: u62 :: u63 :: u64 :: u65 :: u66 :: u67 :: u68 :: u69 :: u70 :: u71 :: u72 :: u73 :: u74 :: u75 :: u76 :: u77 :: u78 :: u79 :: u80 :: u81 :: u82 :: u83 :: u84 :: u85 :: u86 :: u87 :: u88 :: u89 :: u90 :: u91 :: u92 :: u93 :: u94 :: u95 :: u96 :: u97 :: u98 :: u99 :: u100 :: u101 :: u102 :: u103 :: u104 :: u105 :: u106 :: u107 :: u108 :: u109 :: u110 :: u111 :: u112 :: u113 :: u114 :: u115 :: u116 :: u117 :: u118 :: u119 :: u120 :: u121 :: u122 :: u123 :: u124 :: u125 :: u126 :: u127 :: u128 :: u129 :: u130 :: u131 :: u132 :: u133 :: u134 :: u135 :: u136 :: u137 :: u138 :: u139 :: u140 :: u141 :: u142 :: u143 :: u144 :: u145 :: u146 :: u147 :: u148 :: u149 :: u150 :: u151 :: u152 :: u153 :: u154 :: u155 :: u156 :: u157 :: u158 :: u159 :: u160 :: u161 :: u162 :: u163 :: u164 :: u165 :: u166 :: u167 :: u168 :: u169 :: u170 :: u171 :: u172 :: u173 :: u174 :: u175 :: u176 :: u177 :: u178 :: u179 :: u180 :: u181 :: u182 :: u183 :: u184 :: u185 :: u186 :: u187 :: u188 :: u189 :: u190 :: u191 :: u192 :: u193 :: u194 :: u195 :: u196 :: u197 :: u198 :: u199 :: u200 :: u201 :: u202 :: u203 :: u204 :: ((.slice (some ⟨g, 0, none⟩) 4 4 : Value)) :: ((.int .i64 4 : Value)) :: z207 :: z208 :: z209 :: z210 :: z211 :: z212 :: z213 :: z214 :: z215 :: z216 :: z217 :: z218 :: z219 :: z220 :: z221 :: z222 :: z223 :: z224 :: z225 :: z226 :: z227 :: z228 :: z229 :: z230 :: z231 :: z232 :: z233 :: z234 :: z235 :: z236 :: z237 :: u238 :: []), []⟩ wr)) :
    Code.wp Try.prog ((Try.f34.body.bind theLoop).getD .skip) Q0 ⟨List.toArray (u0 :: u1 :: u2 :: v0 :: u4 :: u5 :: u6 :: u7 :: u8 :: u9 :: u10 :: u11 :: u12 :: u13 :: u14 :: u15 :: u16 :: u17 :: u18 :: u19 :: u20 :: u21 :: u22 :: u23 :: u24 :: u25 :: u26 :: u27 :: u28 :: u29 :: u30 :: u31 :: u32 :: u33 :: u34 :: u35 :: u36 :: u37 :: u38 :: u39 :: u40 :: u41 :: u42 :: u43 :: u44 :: u45 :: u46 :: u47 :: u48 :: u49 :: u50 :: u51 :: u52 :: u53 :: u54 :: u55 :: u56 :: u57 :: u58 :: u59 :: u60 :: u61 :: u62 :: u63 :: u64 :: u65 :: u66 :: u67 :: u68 :: u69 :: u70 :: u71 :: u72 :: u73 :: u74 :: u75 :: u76 :: u77 :: u78 :: u79 :: u80 :: u81 :: u82 :: u83 :: u84 :: u85 :: u86 :: u87 :: u88 :: u89 :: u90 :: u91 :: u92 :: u93 :: u94 :: u95 :: u96 :: u97 :: u98 :: u99 :: u100 :: u101 :: u102 :: u103 :: u104 :: u105 :: u106 :: u107 :: u108 :: u109 :: u110 :: u111 :: u112 :: u113 :: u114 :: u115 :: u116 :: u117 :: u118 :: u119 :: u120 :: u121 :: u122 :: u123 :: u124 :: u125 :: u126 :: u127 :: u128 :: u129 :: u130 :: u131 :: u132 :: u133 :: u134 :: u135 :: u136 :: u137 :: u138 :: u139 :: u140 :: u141 :: u142 :: u143 :: u144 :: u145 :: u146 :: u147 :: u148 :: u149 :: u150 :: u151 :: u152 :: u153 :: u154 :: u155 :: u156 :: u157 :: u158 :: u159 :: u160 :: u161 :: u162 :: u163 :: u164 :: u165 :: u166 :: u167 :: u168 :: u169 :: u170 :: u171 :: u172 :: u173 :: u174 :: u175 :: u176 :: u177 :: u178 :: u179 :: u180 :: u181 :: u182 :: u183 :: u184 :: u185 :: u186 :: u187 :: u188 :: u189 :: u190 :: u191 :: u192 :: u193 :: u194 :: u195 :: u196 :: u197 :: u198 :: u199 :: u200 :: u201 :: u202 :: u203 :: u204 :: ((.slice (some ⟨g, 0, none⟩) 4 4 : Value)) :: ((.int .i64 4 : Value)) :: ((.int .i64 0 : Value)) :: u208 :: u209 :: u210 :: u211 :: u212 :: u213 :: u214 :: u215 :: u216 :: u217 :: u218 :: u219 :: u220 :: u221 :: u222 :: u223 :: u224 :: u225 :: u226 :: u227 :: u228 :: u229 :: u230 :: u231 :: u232 :: u233 :: u234 :: u235 :: u236 :: u237 :: u238 :: []), []⟩ wc := by
  conv => arg 2; whnf
  go_loopg [3, 207] 4 (fun gk c i wr => ∃ k : Nat, k ≤ 4 ∧ gk = 4 - k ∧ i = .int .i64 k ∧ Hid (wr.ownsRow base 66 3 c (n + (candK lo hi eax eay ebx eby fax fay fbx fby d1 d2 d3 d4 k).length) (xs ++ cutCells (candK lo hi eax eay ebx eby fax fay fbx fby d1 d2 d3 d4 k))) ∧
      Hid (wr.heap[g]? = some (.cells (candArr be lo hi eax eay ebx eby fax fay fbx fby d1 d2 d3 d4) 79 (0, 0))) ∧ Hid (Below base w wr))
  case atStart =>
    refine ⟨0, by omega, by omega, rfl, ?_, HG, HB2.out.mono hbase⟩
    have e : xs ++ cutCells (candK lo hi eax eay ebx eby fax fay fbx fby d1 d2 d3 d4 0) = xs := List.append_nil _
    rw [e]
    exact own_on HO.out HB2.out
  case round =>
    obtain ⟨k, hk, hgk, rfl, HOr, HGr, HBr⟩ := hrel
    clear HB2 HG
    by_cases hk4 : k < 4
    · skip
      obtain ⟨d, o, ax, ay, bx, by', px, py, c0, c1, c2, c3, c4, E, hnear, hone⟩ := cand_at HGr.out k hk4 (HE.out.under HBr.out hbe) (HF.out.under HBr.out hbe) r0 r1 r2 r3 r4 r5 r6 r7
      have HN : Hid (Near ax ay bx by' px py) := hnear
      have HO1 : Hid (one lo hi eax eay ebx eby fax fay fbx fby d1 d2 d3 d4 k = (if decide (d = 0) && btwB ax ay bx by' px py then [((o : Int), px, py)] else [])) := hone
      clear hnear hone r0 r1 r2 r3 r4 r5 r6 r7
      have hk4' : (k : Int) < 4 := by omega
      obtain ⟨ew, hew⟩ : ∃ ew, ew = btwB ax ay bx by' px py := ⟨_, rfl⟩
      have HW : Hid (btwB ax ay bx by' px py = ew) := hew.symm
      clear hew
      have HE1 : Hid (EdgeAt wr be o ax ay bx by') := E
      clear E
      go_upto_region 13 with (fail)
      have hbl : Below wr.heap.size wr (wr.alloc (.cells #[.int .i64 d, .pointer (some ⟨be, o * 8, none⟩), .int .i64 o, .int .i64 px, .int .i64 py] 79)) := (Below.refl _ _).alloc (Nat.le_refl _) _
      have l0 := cell_of_row (wr.alloc (.cells #[.int .i64 d, .pointer (some ⟨be, o * 8, none⟩), .int .i64 o, .int .i64 px, .int .i64 py] 79)) _ 0 _ _ _ (heap_alloc_new wr _)
      go_cut [228] from 208 to 237 (fun c wc => c = .bool (decide (d = 0) && ew) ∧ Hid (Below (wr.heap.size + 1) (wr.alloc (.cells #[.int .i64 d, .pointer (some ⟨be, o * 8, none⟩), .int .i64 o, .int .i64 px, .int .i64 py] 79)) wc))
      case first =>
        as_aux_lemma =>
          obtain ⟨a0, a1, a2, a3⟩ := HE1.out
          have hltb : be < wr.heap.size := World.block_lt_of_cell? _ _ a0
          by_cases hd0 : d = 0
          · subst hd0
            go_region_held3 (fun w' => w'.cell? ⟨wr.heap.size, 0, none⟩ = some (.int .i64 0) ∧ w'.cell? ⟨wr.heap.size, 1, none⟩ = some (.pointer (some ⟨be, o * 8, none⟩)) ∧ w'.cell? ⟨wr.heap.size, 3, none⟩ = some (.int .i64 px) ∧ w'.cell? ⟨wr.heap.size, 4, none⟩ = some (.int .i64 py) ∧
                w'.cell? ⟨be, o * 8, none⟩ = some (.int .i64 ax) ∧ w'.cell? ⟨be, o * 8 + 1, none⟩ = some (.int .i64 ay) ∧ w'.cell? ⟨be, o * 8 + 2, none⟩ = some (.int .i64 bx) ∧ w'.cell? ⟨be, o * 8 + 2 + 1, none⟩ = some (.int .i64 by'))
              (first
                | go_keep
                | (go_split_ands; refine ⟨?_, ?_, ?_, ?_, ?_, ?_, ?_, ?_⟩ <;> (rw [hb1.cell (by first | (simp; done) | (simp; omega))]; assumption)))
              (first | (go_at_call 30; refine (between_is ax ay bx by' px py ew HW.out _ HN.out).mono ?_; rintro e w1 ⟨rfl, hb1⟩))
            all_goals
              go_wp2_with fail
              go_meet
              case rel => exact ⟨ret_b (by simp), (Below.refl _ _).drew.trans (hb1.mono (by simp))⟩
          · have hdb : (d == 0) = false := by simp [hd0]
            go_quiet (fail)
            go_wp2_with fail
            go_meet
            case rel => exact ⟨ret_b (by simp [hd0]), below_drewN (Below.refl _ _) nq⟩
      case rest =>
        obtain ⟨rfl, HB3⟩ := hcut
        have hbw : Below wr.heap.size wr wc := hbl.trans (HB3.out.mono (by omega))
        have HO3 : Hid (wc.ownsRow base 66 3 _ (n + (candK lo hi eax eay ebx eby fax fay fbx fby d1 d2 d3 d4 k).length) (xs ++ cutCells (candK lo hi eax eay ebx eby fax fay fbx fby d1 d2 d3 d4 k))) := own_on HOr.out hbw
        have HG3 : Hid (wc.heap[g]? = some (.cells (candArr be lo hi eax eay ebx eby fax fay fbx fby d1 d2 d3 d4) 79 (0, 0))) := block_on HGr.out hbw
        have hszr := HBr.out.size
        have hszc := hbw.size
        have HB4 : Hid (Below base w wc) := HBr.out.trans (hbw.mono (by omega))
        have hkl := candK_le lo hi eax eay ebx eby fax fay fbx fby d1 d2 d3 d4 k
        have m2 : wc.cell? ⟨wr.heap.size, 2, none⟩ = some (.int .i64 o) := by
          rw [HB3.out.cell (by simp)]; exact cell_of_row _ _ 2 _ _ _ (heap_alloc_new wr _)
        have m3 : wc.cell? ⟨wr.heap.size, 3, none⟩ = some (.int .i64 px) := by
          rw [HB3.out.cell (by simp)]; exact cell_of_row _ _ 3 _ _ _ (heap_alloc_new wr _)
        have m4 : wc.cell? ⟨wr.heap.size, 4, none⟩ = some (.int .i64 py) := by
          rw [HB3.out.cell (by simp)]; exact cell_of_row _ _ 4 _ _ _ (heap_alloc_new wr _)
        clear HB3 hbl l0 c0 c1 c2 c3 c4
        cases hbo : (decide (d = 0) && ew)
        · have HS : Hid (candK lo hi eax eay ebx eby fax fay fbx fby d1 d2 d3 d4 (k + 1) = candK lo hi eax eay ebx eby fax fay fbx fby d1 d2 d3 d4 k) := by
            show candK lo hi eax eay ebx eby fax fay fbx fby d1 d2 d3 d4 k ++ one lo hi eax eay ebx eby fax fay fbx fby d1 d2 d3 d4 k = _
            rw [HO1.out, HW.out, hbo]; simp
          go_wp2_with fail
          go_roundg (4 - (k + 1))
          case measure => omega
          case rel => exact ⟨k + 1, by omega, rfl, by go_num, by rw [HS.out]; exact HO3.out, HG3, HB4⟩
        · have HS : Hid (candK lo hi eax eay ebx eby fax fay fbx fby d1 d2 d3 d4 (k + 1) = candK lo hi eax eay ebx eby fax fay fbx fby d1 d2 d3 d4 k ++ [((o : Int), px, py)]) := by
            show candK lo hi eax eay ebx eby fax fay fbx fby d1 d2 d3 d4 k ++ one lo hi eax eay ebx eby fax fay fbx fby d1 d2 d3 d4 k = _
            rw [HO1.out, HW.out, hbo]; simp
          obtain ⟨i0, hi0, hz0, hz1, hz2⟩ := info_parts info66
          go_wp2_with (at_builtin; refine wpList_append_own _ rfl (.tmp 229) (.tmp 235) 38 rfl base 66 i0 _ 3 24 Try.underlying38 hi0 hz0 hz1 hz2 rfl (by decide) _ _ _ rfl (HO3.out.alloc _) ⟨wc.heap.size, 0, none⟩ 1 1 [.int .i64 o, .int .i64 px, .int .i64 py] rfl rfl (news_new wc _ 66) (by simp [Value.oneCell']) (by unfold maxLen; omega) (by omega) (by simp; omega) ?_; intro v' w2 hown' hgrow _)
          have HG4 : Hid (w2.heap[g]? = some (.cells (candArr be lo hi eax eay ebx eby fax fay fbx fby d1 d2 d3 d4) 79 (0, 0))) := block_past HO3.out HG3.out hgrow
          have HB5 : Hid (Below base w w2) := (HB4.out.alloc (by omega) _).grown hgrow (by simp; omega) (own_ge HO3.out)
          have HO5 : Hid (w2.ownsRow base 66 3 v' (n + (candK lo hi eax eay ebx eby fax fay fbx fby d1 d2 d3 d4 (k + 1)).length) (xs ++ cutCells (candK lo hi eax eay ebx eby fax fay fbx fby d1 d2 d3 d4 (k + 1)))) := by
            rw [HS.out, List.length_append, cutCells_append, ← List.append_assoc, ← Nat.add_assoc]
            exact hown'
          clear hown' hgrow
          go_wp2_with fail
          go_roundg (4 - (k + 1))
          case measure => omega
          case rel => exact ⟨k + 1, by omega, rfl, by go_num, HO5, HG4, HB5⟩
    · obtain rfl : k = 4 := by omega
      go_wp2_with fail
      exact HX.out _ _ _ _ _ _ _ _ _ _ _ _ _ _ _ _ _ _ _ _ _ _ _ _ _ _ _ _ _ _ _ _ _ _ HOr.out HBr.out

end Go.Proofs.Qxb6609068a.Small
