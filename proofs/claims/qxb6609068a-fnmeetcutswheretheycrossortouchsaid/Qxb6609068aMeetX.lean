/-
  CONTRACT of meet, where the edges cross.
-/
import Derived.Test.Qxb6609068aOwn
import Derived.Deep.RegionHeld3
import Derived.Deep.DrawnRows
import Derived.Deep.QuietTactic
import Derived.BigQuiet
import Derived.Deep.DeepCutAuto
import Derived.Deep.AppendLies
import Derived.Deep.LoopGhost
namespace Go.Proofs.Qxb6609068a.Small
open Go.ChangeShapes Go.WideShapes Go.ChangeAt Go.RowKit
open Fl (eB roundBits)
set_option linter.unusedVariables false
attribute [local go_sem ↓] Go.wp_at_zero Go.wp_at_succ

set_option maxRecDepth 100000 in
set_option maxHeartbeats 8000000 in
theorem meet_cross (be ne lo hi : Nat) (tx ty eax eay ebx eby fax fay fbx fby : Int) (base : Nat) (v : Value) (n : Nat) (xs : List Value) (w : World) (hne : ne ≤ 8192) (h1 : lo ≤ hi) (h2 : hi < ne)
    (he : EdgeAt w be lo eax eay ebx eby) (hf : EdgeAt w be hi fax fay fbx fby)
    (t0 : -536870912 ≤ tx ∧ tx ≤ 536870912) (t1 : -536870912 ≤ ty ∧ ty ≤ 536870912)
    (r0 : -536870912 ≤ eax - tx ∧ eax - tx ≤ 536870912) (r1 : -536870912 ≤ eay - ty ∧ eay - ty ≤ 536870912) (r2 : -536870912 ≤ ebx - tx ∧ ebx - tx ≤ 536870912) (r3 : -536870912 ≤ eby - ty ∧ eby - ty ≤ 536870912)
    (r4 : -536870912 ≤ fax - tx ∧ fax - tx ≤ 536870912) (r5 : -536870912 ≤ fay - ty ∧ fay - ty ≤ 536870912) (r6 : -536870912 ≤ fbx - tx ∧ fbx - tx ≤ 536870912) (r7 : -536870912 ≤ fby - ty ∧ fby - ty ≤ 536870912)
    (hown : w.ownsRow base 66 3 v n xs) (hbase : base ≤ w.heap.size) (hn : n ≤ 65536) (hbe : be < base)
    (hcr : crossB (oriZ fax fay fbx fby eax eay) (oriZ fax fay fbx fby ebx eby) (oriZ eax eay ebx eby fax fay) (oriZ eax eay ebx eby fbx fby) = true) (a b : Nat) (hab : (a = lo ∧ b = hi) ∨ (a = hi ∧ b = lo)) :
    Calls Try.prog 34 #[.slice (some ⟨be, 0, none⟩) ne ne, .int .i64 a, .int .i64 b, v] w fun e w' => MeetPost lo hi eax eay ebx eby fax fay fbx fby base n xs w e w' := by
  have HE : Hid (EdgeAt w be lo eax eay ebx eby) := he
  have HF : Hid (EdgeAt w be hi fax fay fbx fby) := hf
  have HO : Hid (w.ownsRow base 66 3 v n xs) := hown
  have HC : Hid (crossB (oriZ fax fay fbx fby eax eay) (oriZ fax fay fbx fby ebx eby) (oriZ eax eay ebx eby fax fay) (oriZ eax eay ebx eby fbx fby) = true) := hcr
  clear he hf hown hcr
  have x1 : (lo : Int) < (ne : Int) := by omega
  have x2 : (hi : Int) < (ne : Int) := by omega
  go_enter Try.func34, Try.ntmps34
  go_upto_if 21 with (fail)
  go_cut [1, 2] (fun i j wc => i = .int .i64 lo ∧ j = .int .i64 hi ∧ Hid (Below w.heap.size w wc))
  case first =>
    by_cases hlt : lo < hi
    · rcases hab with ⟨rfl, rfl⟩ | ⟨rfl, rfl⟩
      all_goals
        go_wp2_with fail
        go_meet
        case rel => exact ⟨rfl, rfl, Below.refl _ _⟩
    · obtain rfl : lo = hi := by omega
      obtain ⟨rfl, rfl⟩ : a = lo ∧ b = lo := by omega
      go_wp2_with fail
      go_meet
      case rel => exact ⟨rfl, rfl, Below.refl _ _⟩
  case rest =>
  obtain ⟨rfl, rfl, HB0⟩ := hcut
  clear hab
  go_wp2_with fail
  go_cut [9, 10] (fun i j wc => i = .pointer (some ⟨be, lo * 8, none⟩) ∧ j = .pointer (some ⟨be, hi * 8, none⟩) ∧ Hid (Below w.heap.size w wc))
  case first =>
    go_quiet (fail)
    go_wp2_with fail
    go_meet
    case rel => exact ⟨rfl, rfl, below_drewN HB0.out nq⟩
  case rest =>
  obtain ⟨rfl, rfl, HB⟩ := hcut
  clear HB0
  go_wp2_with fail
  go_cut [11, 12] (fun a b wc => a = .int .i64 (oriZ fax fay fbx fby eax eay) ∧ b = .int .i64 (oriZ fax fay fbx fby ebx eby) ∧ Hid (Below w.heap.size w wc))
  case first =>
    as_aux_lemma =>
      obtain ⟨e0, e1, e2, e3⟩ := HE.out.on HB.out
      obtain ⟨f0, f1, f2, f3⟩ := HF.out.on HB.out
      have hlt : be < wc.heap.size := World.block_lt_of_cell? _ _ e0
      have tok : True := trivial
      go_region_held3 (fun w' => w'.cell? ⟨be, lo * 8, none⟩ = some (.int .i64 eax) ∧ w'.cell? ⟨be, lo * 8 + 1, none⟩ = some (.int .i64 eay) ∧ w'.cell? ⟨be, lo * 8 + 2, none⟩ = some (.int .i64 ebx) ∧ w'.cell? ⟨be, lo * 8 + 2 + 1, none⟩ = some (.int .i64 eby) ∧
          w'.cell? ⟨be, hi * 8, none⟩ = some (.int .i64 fax) ∧ w'.cell? ⟨be, hi * 8 + 1, none⟩ = some (.int .i64 fay) ∧ w'.cell? ⟨be, hi * 8 + 2, none⟩ = some (.int .i64 fbx) ∧ w'.cell? ⟨be, hi * 8 + 2 + 1, none⟩ = some (.int .i64 fby))
        (first
          | go_keep
          | (go_split_ands; refine ⟨?_, ?_, ?_, ?_, ?_, ?_, ?_, ?_⟩ <;> (rw [hb1.cell (by simp; omega)]; assumption)))
        (first
          | (go_at_call 40; have _t := tok; refine (orient_is fax fay fbx fby eax eay _ (by omega) (by omega) (by omega) (by omega)).mono ?_; rintro e w1 ⟨rfl, hb1⟩; clear tok; have hlt1 : be < w1.heap.size := Nat.lt_of_lt_of_le (by simpa using hlt) hb1.size; have hb0 := hb1)
          | (go_at_call 40; refine (orient_is fax fay fbx fby ebx eby _ (by omega) (by omega) (by omega) (by omega)).mono ?_; rintro e w2 ⟨rfl, hb1⟩))
      go_wp2_with fail
      go_meet
      case rel => exact ⟨rfl, rfl, bthen HB.out (bthen (Below.refl _ _).drew (bthen hb0 hb1))⟩
  case rest =>
    obtain ⟨rfl, rfl, HB'⟩ := hcut
    clear HB
    have HB := HB'
    clear HB'
    go_wp2_with fail
    go_cut [13, 14] (fun a b wc => a = .int .i64 (oriZ eax eay ebx eby fax fay) ∧ b = .int .i64 (oriZ eax eay ebx eby fbx fby) ∧ Hid (Below w.heap.size w wc))
    case first =>
      as_aux_lemma =>
        obtain ⟨e0, e1, e2, e3⟩ := HE.out.on HB.out
        obtain ⟨f0, f1, f2, f3⟩ := HF.out.on HB.out
        have hlt : be < wc.heap.size := World.block_lt_of_cell? _ _ e0
        have tok : True := trivial
        go_region_held3 (fun w' => w'.cell? ⟨be, lo * 8, none⟩ = some (.int .i64 eax) ∧ w'.cell? ⟨be, lo * 8 + 1, none⟩ = some (.int .i64 eay) ∧ w'.cell? ⟨be, lo * 8 + 2, none⟩ = some (.int .i64 ebx) ∧ w'.cell? ⟨be, lo * 8 + 2 + 1, none⟩ = some (.int .i64 eby) ∧
            w'.cell? ⟨be, hi * 8, none⟩ = some (.int .i64 fax) ∧ w'.cell? ⟨be, hi * 8 + 1, none⟩ = some (.int .i64 fay) ∧ w'.cell? ⟨be, hi * 8 + 2, none⟩ = some (.int .i64 fbx) ∧ w'.cell? ⟨be, hi * 8 + 2 + 1, none⟩ = some (.int .i64 fby))
          (first
            | go_keep
            | (go_split_ands; refine ⟨?_, ?_, ?_, ?_, ?_, ?_, ?_, ?_⟩ <;> (rw [hb1.cell (by simp; omega)]; assumption)))
          (first
            | (go_at_call 40; have _t := tok; refine (orient_is eax eay ebx eby fax fay _ (by omega) (by omega) (by omega) (by omega)).mono ?_; rintro e w1 ⟨rfl, hb1⟩; clear tok; have hlt1 : be < w1.heap.size := Nat.lt_of_lt_of_le (by simpa using hlt) hb1.size; have hb0 := hb1)
            | (go_at_call 40; refine (orient_is eax eay ebx eby fbx fby _ (by omega) (by omega) (by omega) (by omega)).mono ?_; rintro e w2 ⟨rfl, hb1⟩))
        go_wp2_with fail
        go_meet
        case rel => exact ⟨rfl, rfl, bthen HB.out (bthen (Below.refl _ _).drew (bthen hb0 hb1))⟩
    case rest =>
      obtain ⟨rfl, rfl, HB'⟩ := hcut
      clear HB
      obtain ⟨d1, hd1⟩ : ∃ d, oriZ fax fay fbx fby eax eay = d := ⟨_, rfl⟩
      obtain ⟨d2, hd2⟩ : ∃ d, oriZ fax fay fbx fby ebx eby = d := ⟨_, rfl⟩
      obtain ⟨d3, hd3⟩ : ∃ d, oriZ eax eay ebx eby fax fay = d := ⟨_, rfl⟩
      obtain ⟨d4, hd4⟩ : ∃ d, oriZ eax eay ebx eby fbx fby = d := ⟨_, rfl⟩
      have q1 := ori_bd fax fay fbx fby eax eay (by omega) (by omega) (by omega) (by omega)
      have q2 := ori_bd fax fay fbx fby ebx eby (by omega) (by omega) (by omega) (by omega)
      have hx := HC.out
      rw [hd1] at q1
      rw [hd2] at q2
      rw [hd1, hd2, hd3, hd4] at hx
      rw [hd1, hd2, hd3, hd4]
      have D1 : Hid (oriZ fax fay fbx fby eax eay = d1) := hd1
      have D2 : Hid (oriZ fax fay fbx fby ebx eby = d2) := hd2
      have D3 : Hid (oriZ eax eay ebx eby fax fay = d3) := hd3
      have D4 : Hid (oriZ eax eay ebx eby fbx fby = d4) := hd4
      clear hd1 hd2 hd3 hd4 HC
      go_upto_region 6 with (fail)
      go_cut [111] (fun c wc => c = .bool true ∧ Hid (Below w.heap.size w wc))
      case first =>
        as_aux_lemma =>
          rcases cross_open hx with ⟨k1, k2⟩ | ⟨k1, k2⟩
          all_goals
            rcases cross_open2 hx with ⟨k3, k4⟩ | ⟨k3, k4⟩
            all_goals
              go_wp2_with fail
              go_meet
              case rel => exact ⟨rfl, HB'⟩
      case rest =>
        obtain ⟨rfl, HB⟩ := hcut
        clear HB'
        have hxx := cross_open hx
        obtain ⟨s, px, nx, hs, hpx, hnx, bx1, bx2⟩ := Fl.cross_off d1 (d1 - d2) (ebx - eax) (by omega) (by omega) (by omega)
        obtain ⟨s', py, ny, hs', hpy, hny, by1, by2⟩ := Fl.cross_off d1 (d1 - d2) (eby - eay) (by omega) (by omega) (by omega)
        obtain rfl : s = s' := Option.some.inj (hs.symm.trans hs')
        have g1 := fun wx => run_float_arith (P := Try.prog) wx .quo 33 .f64 _ _ s hs
        have g2 := fun wx => run_float_arith (P := Try.prog) wx .mul 33 .f64 _ _ px hpx
        have g3 := fun wx => run_float_arith (P := Try.prog) wx .mul 33 .f64 _ _ py hpy
        have g4 := fun wx => run_convert_float_int (P := Try.prog) wx 33 2 .f64 .i64 (roundBits px) nx (by kernel_rfl) Try.underlying2 hnx
        have g5 := fun wx => run_convert_float_int (P := Try.prog) wx 33 2 .f64 .i64 (roundBits py) ny (by kernel_rfl) Try.underlying2 hny
        have nb1 := Fl.off_bd d1 (d1 - d2) (ebx - eax) nx (by omega) (by omega) bx1 bx2
        have nb2 := Fl.off_bd d1 (d1 - d2) (eby - eay) ny (by omega) (by omega) by1 by2
        have HX : Hid (offZ d1 (d1 - d2) (ebx - eax) = nx) := off_eq hs hpx hnx
        have HY : Hid (offZ d1 (d1 - d2) (eby - eay) = ny) := off_eq hs hpy hny
        have HH : Hid (crossB d1 d2 d3 d4 = true) := hx
        clear hs hs' hpx hpy hnx hny bx1 bx2 by1 by2 hx
        go_upto_region 8 with (fail)
        go_cut [16] (fun q wc => ∃ g, q = .pointer (some ⟨g, 0, none⟩) ∧ wc.cell? ⟨g, 0, none⟩ = some (.int .i64 (eax + nx)) ∧ wc.cell? ⟨g, 1, none⟩ = some (.int .i64 (eay + ny)) ∧ Hid (Below w.heap.size w wc))
        case first =>
          obtain ⟨e0, e1, e2, e3⟩ := HE.out.on HB.out
          have wr1 : IntKind.i64.wrap (ebx - eax) = ebx - eax := wrap_in (by omega)
          have wr2 : IntKind.i64.wrap (eby - eay) = eby - eay := wrap_in (by omega)
          have wr3 : IntKind.i64.wrap (eax + nx) = eax + nx := wrap_in (by omega)
          have wr4 : IntKind.i64.wrap (eay + ny) = eay + ny := wrap_in (by omega)
          as_aux_lemma =>
            go_region_held3 (fun w' => w'.cell? ⟨be, lo * 8, none⟩ = some (.int .i64 eax) ∧ w'.cell? ⟨be, lo * 8 + 1, none⟩ = some (.int .i64 eay) ∧ w'.cell? ⟨be, lo * 8 + 2, none⟩ = some (.int .i64 ebx) ∧ w'.cell? ⟨be, lo * 8 + 2 + 1, none⟩ = some (.int .i64 eby))
              (go_keep)
              (first | (go_at_call 41; refine (round_is _ _).mono ?_; rintro e w' ⟨rfl, hw⟩; subst w'))
            all_goals
              go_wp2_with fail
              go_meet
              case rel => exact ⟨wc.heap.size, rfl, (new_two wc _ _ 25).1, (new_two wc _ _ 25).2, (HB.out.alloc HB.out.size _).drew⟩
        case rest =>
          obtain ⟨g, rfl, c0, c1, HB2⟩ := hcut
          clear HB g1 g2 g3 g4 g5
          obtain ⟨i0, hi0, hz0, hz1, hz2⟩ := info_parts info66
          have hown := own_on HO.out HB2.out
          have HO2 : Hid (wc.ownsRow base 66 3 v n xs) := hown
          have hsz := HB2.out.size
          clear hown
          go_wp2_with (at_builtin; refine wpList_append_own _ rfl (.tmp 164) (.tmp 171) 38 rfl base 66 i0 _ 3 24 Try.underlying38 hi0 hz0 hz1 hz2 rfl (by decide) v n xs rfl (HO2.out.alloc _) ⟨wc.heap.size, 0, none⟩ 2 2 [.int .i64 lo, .int .i64 (eax + nx), .int .i64 (eay + ny), .int .i64 hi, .int .i64 (eax + nx), .int .i64 (eay + ny)] rfl rfl (news_new wc _ 66) (by simp [Value.oneCell']) (by unfold maxLen; omega) (by omega) (by simp; omega) ?_; intro v' w1 hown' hgrow _)
          go_ret
          refine ⟨v', rfl, ?_, ?_⟩
          · have e : newCuts lo hi eax eay ebx eby fax fay fbx fby = [((lo : Int), eax + nx, eay + ny), ((hi : Int), eax + nx, eay + ny)] := by
              unfold newCuts
              rw [D1.out, D2.out, D3.out, D4.out, HX.out, HY.out, HH.out, if_pos rfl]
            rw [e]
            exact hown'
          · exact (((HB2.out.mono hbase).alloc (by omega) _).grown hgrow (by simp; omega) (own_ge HO.out))

end Go.Proofs.Qxb6609068a.Small
