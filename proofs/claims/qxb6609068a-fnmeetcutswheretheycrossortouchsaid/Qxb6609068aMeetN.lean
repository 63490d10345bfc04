/-
  CONTRACT of meet, where the edges do not cross.
-/
import Derived.Test.Qxb6609068aMeetL
import Derived.Deep.RegionHeld3
import Derived.Deep.DrawnRows
import Derived.Deep.QuietTactic
import Derived.BigQuiet
import Derived.Deep.DeepCutAuto
import Derived.Deep.AppendLies
import Derived.Deep.LoopGhost
namespace Go.Proofs.Qxb6609068a.Small
open Go.ChangeShapes Go.WideShapes Go.ChangeAt Go.RowKit
open Fl (eB roundBits)
set_option linter.unusedVariables false
attribute [local go_sem ↓] Go.wp_at_zero Go.wp_at_succ

set_option maxRecDepth 100000 in
set_option maxHeartbeats 40000000 in
theorem meet_plain (be ne lo hi : Nat) (tx ty eax eay ebx eby fax fay fbx fby : Int) (base : Nat) (v : Value) (n : Nat) (xs : List Value) (w : World) (hne : ne ≤ 8192) (h1 : lo ≤ hi) (h2 : hi < ne)
    (he : EdgeAt w be lo eax eay ebx eby) (hf : EdgeAt w be hi fax fay fbx fby)
    (t0 : -536870912 ≤ tx ∧ tx ≤ 536870912) (t1 : -536870912 ≤ ty ∧ ty ≤ 536870912)
    (r0 : -536870912 ≤ eax - tx ∧ eax - tx ≤ 536870912) (r1 : -536870912 ≤ eay - ty ∧ eay - ty ≤ 536870912) (r2 : -536870912 ≤ ebx - tx ∧ ebx - tx ≤ 536870912) (r3 : -536870912 ≤ eby - ty ∧ eby - ty ≤ 536870912)
    (r4 : -536870912 ≤ fax - tx ∧ fax - tx ≤ 536870912) (r5 : -536870912 ≤ fay - ty ∧ fay - ty ≤ 536870912) (r6 : -536870912 ≤ fbx - tx ∧ fbx - tx ≤ 536870912) (r7 : -536870912 ≤ fby - ty ∧ fby - ty ≤ 536870912)
    (hown : w.ownsRow base 66 3 v n xs) (hbase : base ≤ w.heap.size) (hn : n ≤ 65536) (hbe : be < base)
    (hcr : crossB (oriZ fax fay fbx fby eax eay) (oriZ fax fay fbx fby ebx eby) (oriZ eax eay ebx eby fax fay) (oriZ eax eay ebx eby fbx fby) = false) (a b : Nat) (hab : (a = lo ∧ b = hi) ∨ (a = hi ∧ b = lo)) :
    Calls Try.prog 34 #[.slice (some ⟨be, 0, none⟩) ne ne, .int .i64 a, .int .i64 b, v] w fun e w' => MeetPost lo hi eax eay ebx eby fax fay fbx fby base n xs w e w' := by
  have HE : Hid (EdgeAt w be lo eax eay ebx eby) := he
  have HF : Hid (EdgeAt w be hi fax fay fbx fby) := hf
  have HO : Hid (w.ownsRow base 66 3 v n xs) := hown
  have HC : Hid (crossB (oriZ fax fay fbx fby eax eay) (oriZ fax fay fbx fby ebx eby) (oriZ eax eay ebx eby fax fay) (oriZ eax eay ebx eby fbx fby) = false) := hcr
  clear he hf hown hcr
  have x1 : (lo : Int) < (ne : Int) := by omega
  have x2 : (hi : Int) < (ne : Int) := by omega
  go_enter Try.func34, Try.ntmps34
  go_upto_if 21 with (fail)
  go_cut [1, 2] (fun i j wc => i = .int .i64 lo ∧ j = .int .i64 hi ∧ Hid (Below w.heap.size w wc))
  case first =>
    by_cases hlt : lo < hi
    · rcases hab with ⟨rfl, rfl⟩ | ⟨rfl, rfl⟩
      all_goals
        go_wp2_with fail
        go_meet
        case rel => exact ⟨rfl, rfl, Below.refl _ _⟩
    · obtain rfl : lo = hi := by omega
      obtain ⟨rfl, rfl⟩ : a = lo ∧ b = lo := by omega
      go_wp2_with fail
      go_meet
      case rel => exact ⟨rfl, rfl, Below.refl _ _⟩
  case rest =>
  obtain ⟨rfl, rfl, HB0⟩ := hcut
  clear hab
  go_wp2_with fail
  go_cut [9, 10] (fun i j wc => i = .pointer (some ⟨be, lo * 8, none⟩) ∧ j = .pointer (some ⟨be, hi * 8, none⟩) ∧ Hid (Below w.heap.size w wc))
  case first =>
    go_quiet (fail)
    go_wp2_with fail
    go_meet
    case rel => exact ⟨rfl, rfl, below_drewN HB0.out nq⟩
  case rest =>
  obtain ⟨rfl, rfl, HB⟩ := hcut
  clear HB0
  go_wp2_with fail
  go_cut [11, 12] (fun a b wc => a = .int .i64 (oriZ fax fay fbx fby eax eay) ∧ b = .int .i64 (oriZ fax fay fbx fby ebx eby) ∧ Hid (Below w.heap.size w wc))
  case first =>
    as_aux_lemma =>
      obtain ⟨e0, e1, e2, e3⟩ := HE.out.on HB.out
      obtain ⟨f0, f1, f2, f3⟩ := HF.out.on HB.out
      have hlt : be < wc.heap.size := World.block_lt_of_cell? _ _ e0
      have tok : True := trivial
      go_region_held3 (fun w' => w'.cell? ⟨be, lo * 8, none⟩ = some (.int .i64 eax) ∧ w'.cell? ⟨be, lo * 8 + 1, none⟩ = some (.int .i64 eay) ∧ w'.cell? ⟨be, lo * 8 + 2, none⟩ = some (.int .i64 ebx) ∧ w'.cell? ⟨be, lo * 8 + 2 + 1, none⟩ = some (.int .i64 eby) ∧
          w'.cell? ⟨be, hi * 8, none⟩ = some (.int .i64 fax) ∧ w'.cell? ⟨be, hi * 8 + 1, none⟩ = some (.int .i64 fay) ∧ w'.cell? ⟨be, hi * 8 + 2, none⟩ = some (.int .i64 fbx) ∧ w'.cell? ⟨be, hi * 8 + 2 + 1, none⟩ = some (.int .i64 fby))
        (first
          | go_keep
          | (go_split_ands; refine ⟨?_, ?_, ?_, ?_, ?_, ?_, ?_, ?_⟩ <;> (rw [hb1.cell (by simp; omega)]; assumption)))
        (first
          | (go_at_call 40; have _t := tok; refine (orient_is fax fay fbx fby eax eay _ (by omega) (by omega) (by omega) (by omega)).mono ?_; rintro e w1 ⟨rfl, hb1⟩; clear tok; have hlt1 : be < w1.heap.size := Nat.lt_of_lt_of_le (by simpa using hlt) hb1.size; have hb0 := hb1)
          | (go_at_call 40; refine (orient_is fax fay fbx fby ebx eby _ (by omega) (by omega) (by omega) (by omega)).mono ?_; rintro e w2 ⟨rfl, hb1⟩))
      go_wp2_with fail
      go_meet
      case rel => exact ⟨rfl, rfl, bthen HB.out (bthen (Below.refl _ _).drew (bthen hb0 hb1))⟩
  case rest =>
    obtain ⟨rfl, rfl, HB'⟩ := hcut
    clear HB
    have HB := HB'
    clear HB'
    go_wp2_with fail
    go_cut [13, 14] (fun a b wc => a = .int .i64 (oriZ eax eay ebx eby fax fay) ∧ b = .int .i64 (oriZ eax eay ebx eby fbx fby) ∧ Hid (Below w.heap.size w wc))
    case first =>
      as_aux_lemma =>
        obtain ⟨e0, e1, e2, e3⟩ := HE.out.on HB.out
        obtain ⟨f0, f1, f2, f3⟩ := HF.out.on HB.out
        have hlt : be < wc.heap.size := World.block_lt_of_cell? _ _ e0
        have tok : True := trivial
        go_region_held3 (fun w' => w'.cell? ⟨be, lo * 8, none⟩ = some (.int .i64 eax) ∧ w'.cell? ⟨be, lo * 8 + 1, none⟩ = some (.int .i64 eay) ∧ w'.cell? ⟨be, lo * 8 + 2, none⟩ = some (.int .i64 ebx) ∧ w'.cell? ⟨be, lo * 8 + 2 + 1, none⟩ = some (.int .i64 eby) ∧
            w'.cell? ⟨be, hi * 8, none⟩ = some (.int .i64 fax) ∧ w'.cell? ⟨be, hi * 8 + 1, none⟩ = some (.int .i64 fay) ∧ w'.cell? ⟨be, hi * 8 + 2, none⟩ = some (.int .i64 fbx) ∧ w'.cell? ⟨be, hi * 8 + 2 + 1, none⟩ = some (.int .i64 fby))
          (first
            | go_keep
            | (go_split_ands; refine ⟨?_, ?_, ?_, ?_, ?_, ?_, ?_, ?_⟩ <;> (rw [hb1.cell (by simp; omega)]; assumption)))
          (first
            | (go_at_call 40; have _t := tok; refine (orient_is eax eay ebx eby fax fay _ (by omega) (by omega) (by omega) (by omega)).mono ?_; rintro e w1 ⟨rfl, hb1⟩; clear tok; have hlt1 : be < w1.heap.size := Nat.lt_of_lt_of_le (by simpa using hlt) hb1.size; have hb0 := hb1)
            | (go_at_call 40; refine (orient_is eax eay ebx eby fbx fby _ (by omega) (by omega) (by omega) (by omega)).mono ?_; rintro e w2 ⟨rfl, hb1⟩))
        go_wp2_with fail
        go_meet
        case rel => exact ⟨rfl, rfl, bthen HB.out (bthen (Below.refl _ _).drew (bthen hb0 hb1))⟩
    case rest =>
      obtain ⟨rfl, rfl, HB'⟩ := hcut
      clear HB
      obtain ⟨d1, hd1⟩ : ∃ d, oriZ fax fay fbx fby eax eay = d := ⟨_, rfl⟩
      obtain ⟨d2, hd2⟩ : ∃ d, oriZ fax fay fbx fby ebx eby = d := ⟨_, rfl⟩
      obtain ⟨d3, hd3⟩ : ∃ d, oriZ eax eay ebx eby fax fay = d := ⟨_, rfl⟩
      obtain ⟨d4, hd4⟩ : ∃ d, oriZ eax eay ebx eby fbx fby = d := ⟨_, rfl⟩
      have q1 := ori_bd fax fay fbx fby eax eay (by omega) (by omega) (by omega) (by omega)
      have q2 := ori_bd fax fay fbx fby ebx eby (by omega) (by omega) (by omega) (by omega)
      have hx := HC.out
      rw [hd1] at q1
      rw [hd2] at q2
      rw [hd1, hd2, hd3, hd4] at hx
      rw [hd1, hd2, hd3, hd4]
      have D1 : Hid (oriZ fax fay fbx fby eax eay = d1) := hd1
      have D2 : Hid (oriZ fax fay fbx fby ebx eby = d2) := hd2
      have D3 : Hid (oriZ eax eay ebx eby fax fay = d3) := hd3
      have D4 : Hid (oriZ eax eay ebx eby fbx fby = d4) := hd4
      clear hd1 hd2 hd3 hd4 HC
      go_upto_region 6 with (fail)
      go_cut [111] (fun c wc => c = .bool false ∧ Hid (Below w.heap.size w wc))
      case first =>
        as_aux_lemma =>
          have hno := cross_not hx
          rcases (by omega : (0 < d1 ∧ d2 < 0) ∨ (d1 < 0 ∧ 0 < d2) ∨ (0 < d1 ∧ 0 ≤ d2) ∨ (d1 < 0 ∧ d2 ≤ 0) ∨ (d1 ≤ 0 ∧ 0 ≤ d1)) with ⟨k1, k2⟩ | ⟨k1, k2⟩ | ⟨k1, k2⟩ | ⟨k1, k2⟩ | ⟨k1, k2⟩
          · rcases (by omega : (0 < d3 ∧ 0 ≤ d4) ∨ (d3 < 0 ∧ d4 ≤ 0) ∨ (d3 ≤ 0 ∧ 0 ≤ d3)) with ⟨k3, k4⟩ | ⟨k3, k4⟩ | ⟨k3, k4⟩
            all_goals
              clear hno
              go_wp2_with fail
              go_meet
              case rel =>
                refine ⟨ret_b ?_, HB'⟩
                first | rfl | (apply decide_eq_false; omega)
          · rcases (by omega : (0 < d3 ∧ 0 ≤ d4) ∨ (d3 < 0 ∧ d4 ≤ 0) ∨ (d3 ≤ 0 ∧ 0 ≤ d3)) with ⟨k3, k4⟩ | ⟨k3, k4⟩ | ⟨k3, k4⟩
            all_goals
              clear hno
              go_wp2_with fail
              go_meet
              case rel =>
                refine ⟨ret_b ?_, HB'⟩
                first | rfl | (apply decide_eq_false; omega)
          all_goals
            clear hno
            go_wp2_with fail
            go_meet
            case rel =>
              refine ⟨ret_b ?_, HB'⟩
              first | rfl | (apply decide_eq_false; omega)
      case rest =>
        obtain ⟨rfl, HB⟩ := hcut
        clear HB'
        have HH : Hid (crossB d1 d2 d3 d4 = false) := hx
        clear hx q1 q2
        go_wp2_with fail
        go_cut [205, 206, 207] (fun a l i wc => ∃ g, a = .slice (some ⟨g, 0, none⟩) 4 4 ∧ l = .int .i64 4 ∧ i = .int .i64 0 ∧ w.heap.size ≤ g ∧ Hid (wc.heap[g]? = some (.cells (candArr be lo hi eax eay ebx eby fax fay fbx fby d1 d2 d3 d4) 79 (0, 0))) ∧ Hid (Below w.heap.size w wc))
        case first =>
          obtain ⟨e0, e1, e2, e3⟩ := HE.out.on HB.out
          obtain ⟨f0, f1, f2, f3⟩ := HF.out.on HB.out
          go_region_held3 (fun w' => w'.cell? ⟨be, lo * 8, none⟩ = some (.int .i64 eax) ∧ w'.cell? ⟨be, lo * 8 + 1, none⟩ = some (.int .i64 eay) ∧ w'.cell? ⟨be, lo * 8 + 2, none⟩ = some (.int .i64 ebx) ∧ w'.cell? ⟨be, lo * 8 + 2 + 1, none⟩ = some (.int .i64 eby) ∧
              w'.cell? ⟨be, hi * 8, none⟩ = some (.int .i64 fax) ∧ w'.cell? ⟨be, hi * 8 + 1, none⟩ = some (.int .i64 fay) ∧ w'.cell? ⟨be, hi * 8 + 2, none⟩ = some (.int .i64 fbx) ∧ w'.cell? ⟨be, hi * 8 + 2 + 1, none⟩ = some (.int .i64 fby))
            (go_keep) (fail)
          all_goals
            go_wp2_with fail
            go_meet
            case rel => exact ⟨wc.heap.size, rfl, rfl, rfl, HB.out.size, heap_alloc_new wc _, (HB.out.alloc HB.out.size _).drew⟩
        case rest =>
          obtain ⟨g, rfl, rfl, rfl, hg, HG, HB2⟩ := hcut
          clear HB
          go_wp2_with fail
          refine cand_loop be lo hi tx ty eax eay ebx eby fax fay fbx fby d1 d2 d3 d4 base v n xs w wc HE HF r0 r1 r2 r3 r4 r5 r6 r7 HO hbase hn hbe g hg HG HB2 _ _ _ _ _ _ _ _ _ _ _ _ _ _ _ _ _ _ _ _ _ _ _ _ _ _ _ _ _ _ _ _ _ _ _ _ _ _ _ _ _ _ _ _ _ _ _ _ _ _ _ _ _ _ _ _ _ _ _ _ _ _ _ _ _ _ _ _ _ _ _ _ _ _ _ _ _ _ _ _ _ _ _ _ _ _ _ _ _ _ _ _ _ _ _ _ _ _ _ _ _ _ _ _ _ _ _ _ _ _ _ _ _ _ _ _ _ _ _ _ _ _ _ _ _ _ _ _ _ _ _ _ _ _ _ _ _ _ _ _ _ _ _ _ _ _ _ _ _ _ _ _ _ _ _ _ _ _ _ _ _ _ _ _ _ _ _ _ _ _ _ _ _ _ _ _ _ _ _ _ _ _ _ _ _ _ _ _ _ _ _ _ _ _ _ _ _ _ _ _ _ _ _ _ _ _ _ _ _ _ _ _ _ _ _ _ _ _ _ _ _ _ _ _ _ _ _ _ _ _ _ _ _ _ _ _ ?_
          intro c z18 z207 z208 z209 z210 z211 z212 z213 z214 z215 z216 z217 z218 z219 z220 z221 z222 z223 z224 z225 z226 z227 z228 z229 z230 z231 z232 z233 z234 z235 z236 z237 wr hOr hBr
          have HOr : Hid (wr.ownsRow base 66 3 c (n + (candK lo hi eax eay ebx eby fax fay fbx fby d1 d2 d3 d4 4).length) (xs ++ cutCells (candK lo hi eax eay ebx eby fax fay fbx fby d1 d2 d3 d4 4))) := hOr
          have HBr : Hid (Below base w wr) := hBr
          clear hOr hBr HG HB2
          go_wp2
          go_ret
          have e := new_of_cands (lo := lo) (hi := hi) (eax := eax) (eay := eay) (ebx := ebx) (eby := eby) (fax := fax) (fay := fay) (fbx := fbx) (fby := fby) (by rw [D1.out, D2.out, D3.out, D4.out]; exact HH.out)
          rw [D1.out, D2.out, D3.out, D4.out] at e
          refine ⟨_, rfl, ?_, HBr.out⟩
          rw [e]
          exact HOr.out

end Go.Proofs.Qxb6609068a.Small
