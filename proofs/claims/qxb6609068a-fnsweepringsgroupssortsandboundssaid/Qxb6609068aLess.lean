/-
  sweepRings's own 'less' (sweepRings$1) and the 'xy' that ZZsweepRingsXY hands it: what they answer; they lay blocks and turn nothing.
-/
import Derived.Test.Qxb6609068aSrt10
import Derived.Deep.RegionHeld3
import Derived.Deep.DrawnRows
import Derived.Deep.QuietTactic
import Derived.BigQuiet
namespace Go.Proofs.Qxb6609068a.Srt
open Go.Shelf Go.RowKit Go.Lib Go.Sort
set_option linter.unusedVariables false
set_option linter.unusedSimpArgs false
attribute [local go_sem ↓] Go.wp_at_zero Go.wp_at_succ

/-- nothing that lay has turned; draws, and new blocks -/
def Grew (W W' : World) : Prop := ∃ q os, W' = grow (W.drewN q) os

theorem Grew.refl (W : World) : Grew W W := ⟨0, #[], by rw [grow_empty]; rfl⟩
theorem Grew.trans {A B C : World} (h : Grew A B) (k : Grew B C) : Grew A C := by
  obtain ⟨q, os, rfl⟩ := h
  obtain ⟨r, ot, rfl⟩ := k
  refine ⟨q + r, os ++ ot, ?_⟩
  show grow (grow ((A.drewN q).drewN r) os) ot = _
  rw [grow_grow, World.drewN_drewN]
theorem Grew.drew {A B : World} (h : Grew A B) : Grew A B.drew := h.trans ⟨1, #[], by rw [grow_empty]; rfl⟩
theorem Grew.drewN {A B : World} (h : Grew A B) (n : Nat) : Grew A (B.drewN n) := h.trans ⟨n, #[], by rw [grow_empty]⟩
theorem Grew.alloc {A B : World} (h : Grew A B) (o : Obj) : Grew A (B.alloc o) := h.trans ⟨0, #[o], by rw [alloc_eq_grow]; rfl⟩
theorem Grew.kept {A B : World} (h : Grew A B) (blk : Nat) : Kept blk A B := by
  obtain ⟨q, os, rfl⟩ := h
  exact kept_grow (show Kept blk A (A.drewN q) from ⟨Nat.le_refl _, fun _ _ _ => rfl⟩) os
theorem Grew.cell {A B : World} (h : Grew A B) {a : Addr} {v : Value} (hc : A.cell? a = some v) : B.cell? a = some v := by
  obtain ⟨q, os, rfl⟩ := h
  rw [cell?_grow _ _ _ (by exact World.block_lt_of_cell? A _ hc)]; exact hc

theorem sw_grew {α : Type} [Inhabited α] {enc : α → Value} {blk off : Nat} {w0 A B : World} {dk : Array α} (h : SW enc w0 blk off dk A) (k : Grew A B) : SW enc w0 blk off dk B := by
  obtain ⟨q, os, rfl⟩ := k
  obtain ⟨m, os0, rfl⟩ := h
  refine ⟨m + q, os0 ++ os, ?_⟩
  unfold sortWorld
  show grow (grow ((putRow enc (Sort.ahead w0 m) blk off dk).drewN q) os0) os = _
  rw [grow_grow, putRow_drewN]

abbrev pnt (x y : Int) : Value := .agg #[.int .i64 x, .int .i64 y]

set_option maxHeartbeats 1000000 in
theorem xy_is (x y : Int) (w : World) : Calls Try.prog 38 #[pnt x y] w fun e w' => e = .returned (.tuple #[.int .i64 x, .int .i64 y]) ∧ Grew w w' := by
  go_enter Try.func38, Try.ntmps38
  go_wp2_with fail
  go_quiet (fail)
  go_wp2
  go_ret2
  exact ⟨rfl, ((Grew.refl w).alloc _).drewN nq⟩


set_option maxRecDepth 100000 in
set_option maxHeartbeats 4000000 in
theorem less_is (X E S ge n blk m c i j ei ej : Nat) (eax eay ebx eby fax fay fbx fby : Int) (W : World) (hi : i < m) (hj : j < m) (he : ei < n) (hf : ej < n) (hn : n ≤ 8192)
    (h0 : W.cell? ⟨X, 0, none⟩ = some (.func (.func 38) #[] #[])) (h1 : W.cell? ⟨E, 0, none⟩ = some (.slice (some ⟨ge, 0, none⟩) n n)) (h2 : W.cell? ⟨S, 0, none⟩ = some (.slice (some ⟨blk, 0, none⟩) m c)) (h3 : W.cell? ⟨blk, i, none⟩ = some (.int .i64 ei)) (h4 : W.cell? ⟨blk, j, none⟩ = some (.int .i64 ej)) (h5 : W.cell? ⟨ge, ei * 8, none⟩ = some (.int .i64 eax)) (h6 : W.cell? ⟨ge, ei * 8 + 1, none⟩ = some (.int .i64 eay)) (h7 : W.cell? ⟨ge, ei * 8 + 2, none⟩ = some (.int .i64 ebx)) (h8 : W.cell? ⟨ge, ei * 8 + 2 + 1, none⟩ = some (.int .i64 eby)) (h9 : W.cell? ⟨ge, ej * 8, none⟩ = some (.int .i64 fax)) (h10 : W.cell? ⟨ge, ej * 8 + 1, none⟩ = some (.int .i64 fay)) (h11 : W.cell? ⟨ge, ej * 8 + 2, none⟩ = some (.int .i64 fbx)) (h12 : W.cell? ⟨ge, ej * 8 + 2 + 1, none⟩ = some (.int .i64 fby)) :
    Calls Try.prog 49 #[.int .i64 i, .int .i64 j, .pointer (some ⟨X, 0, none⟩), .pointer (some ⟨E, 0, none⟩), .pointer (some ⟨S, 0, none⟩)] W fun e w' => e = .returned (.bool (decide (min eay eby < min fay fby))) ∧ Grew W w' := by
  have hil : (i : Int) < (m : Int) := by omega
  have hjl : (j : Int) < (m : Int) := by omega
  have hel : (ei : Int) < (n : Int) := by omega
  have hfl : (ej : Int) < (n : Int) := by omega
  go_enter Try.func49, Try.ntmps49
  go_wp2_with fail
  go_region_held3 (fun w' => w'.cell? ⟨X, 0, none⟩ = some (.func (.func 38) #[] #[]) ∧ w'.cell? ⟨E, 0, none⟩ = some (.slice (some ⟨ge, 0, none⟩) n n) ∧ w'.cell? ⟨S, 0, none⟩ = some (.slice (some ⟨blk, 0, none⟩) m c) ∧ w'.cell? ⟨blk, i, none⟩ = some (.int .i64 ei) ∧ w'.cell? ⟨blk, j, none⟩ = some (.int .i64 ej) ∧ w'.cell? ⟨ge, ei * 8, none⟩ = some (.int .i64 eax) ∧ w'.cell? ⟨ge, ei * 8 + 1, none⟩ = some (.int .i64 eay) ∧ w'.cell? ⟨ge, ei * 8 + 2, none⟩ = some (.int .i64 ebx) ∧ w'.cell? ⟨ge, ei * 8 + 2 + 1, none⟩ = some (.int .i64 eby) ∧ w'.cell? ⟨ge, ej * 8, none⟩ = some (.int .i64 fax) ∧ w'.cell? ⟨ge, ej * 8 + 1, none⟩ = some (.int .i64 fay) ∧ w'.cell? ⟨ge, ej * 8 + 2, none⟩ = some (.int .i64 fbx) ∧ w'.cell? ⟨ge, ej * 8 + 2 + 1, none⟩ = some (.int .i64 fby))
    (first
      | go_keep
      | (go_split_ands; refine ⟨?_, ?_, ?_, ?_, ?_, ?_, ?_, ?_, ?_, ?_, ?_, ?_, ?_⟩ <;> (exact hg1.cell (by assumption))))
    (first | (go_at_call 38; refine (xy_is eax eay _).mono ?_; rintro e w1 ⟨rfl, hg1⟩))
  go_wp2_with fail
  go_region_held3 (fun w' => w'.cell? ⟨X, 0, none⟩ = some (.func (.func 38) #[] #[]) ∧ w'.cell? ⟨E, 0, none⟩ = some (.slice (some ⟨ge, 0, none⟩) n n) ∧ w'.cell? ⟨S, 0, none⟩ = some (.slice (some ⟨blk, 0, none⟩) m c) ∧ w'.cell? ⟨blk, i, none⟩ = some (.int .i64 ei) ∧ w'.cell? ⟨blk, j, none⟩ = some (.int .i64 ej) ∧ w'.cell? ⟨ge, ei * 8, none⟩ = some (.int .i64 eax) ∧ w'.cell? ⟨ge, ei * 8 + 1, none⟩ = some (.int .i64 eay) ∧ w'.cell? ⟨ge, ei * 8 + 2, none⟩ = some (.int .i64 ebx) ∧ w'.cell? ⟨ge, ei * 8 + 2 + 1, none⟩ = some (.int .i64 eby) ∧ w'.cell? ⟨ge, ej * 8, none⟩ = some (.int .i64 fax) ∧ w'.cell? ⟨ge, ej * 8 + 1, none⟩ = some (.int .i64 fay) ∧ w'.cell? ⟨ge, ej * 8 + 2, none⟩ = some (.int .i64 fbx) ∧ w'.cell? ⟨ge, ej * 8 + 2 + 1, none⟩ = some (.int .i64 fby))
    (first
      | go_keep
      | (go_split_ands; refine ⟨?_, ?_, ?_, ?_, ?_, ?_, ?_, ?_, ?_, ?_, ?_, ?_, ?_⟩ <;> (exact hg2.cell (by assumption))))
    (first | (go_at_call 38; refine (xy_is ebx eby _).mono ?_; rintro e w2 ⟨rfl, hg2⟩))
  go_wp2_with fail
  go_region_held3 (fun w' => w'.cell? ⟨X, 0, none⟩ = some (.func (.func 38) #[] #[]) ∧ w'.cell? ⟨E, 0, none⟩ = some (.slice (some ⟨ge, 0, none⟩) n n) ∧ w'.cell? ⟨S, 0, none⟩ = some (.slice (some ⟨blk, 0, none⟩) m c) ∧ w'.cell? ⟨blk, i, none⟩ = some (.int .i64 ei) ∧ w'.cell? ⟨blk, j, none⟩ = some (.int .i64 ej) ∧ w'.cell? ⟨ge, ei * 8, none⟩ = some (.int .i64 eax) ∧ w'.cell? ⟨ge, ei * 8 + 1, none⟩ = some (.int .i64 eay) ∧ w'.cell? ⟨ge, ei * 8 + 2, none⟩ = some (.int .i64 ebx) ∧ w'.cell? ⟨ge, ei * 8 + 2 + 1, none⟩ = some (.int .i64 eby) ∧ w'.cell? ⟨ge, ej * 8, none⟩ = some (.int .i64 fax) ∧ w'.cell? ⟨ge, ej * 8 + 1, none⟩ = some (.int .i64 fay) ∧ w'.cell? ⟨ge, ej * 8 + 2, none⟩ = some (.int .i64 fbx) ∧ w'.cell? ⟨ge, ej * 8 + 2 + 1, none⟩ = some (.int .i64 fby))
    (first
      | go_keep
      | (go_split_ands; refine ⟨?_, ?_, ?_, ?_, ?_, ?_, ?_, ?_, ?_, ?_, ?_, ?_, ?_⟩ <;> (exact hg3.cell (by assumption))))
    (first | (go_at_call 38; refine (xy_is fax fay _).mono ?_; rintro e w3 ⟨rfl, hg3⟩))
  go_wp2_with fail
  go_region_held3 (fun w' => w'.cell? ⟨X, 0, none⟩ = some (.func (.func 38) #[] #[]) ∧ w'.cell? ⟨E, 0, none⟩ = some (.slice (some ⟨ge, 0, none⟩) n n) ∧ w'.cell? ⟨S, 0, none⟩ = some (.slice (some ⟨blk, 0, none⟩) m c) ∧ w'.cell? ⟨blk, i, none⟩ = some (.int .i64 ei) ∧ w'.cell? ⟨blk, j, none⟩ = some (.int .i64 ej) ∧ w'.cell? ⟨ge, ei * 8, none⟩ = some (.int .i64 eax) ∧ w'.cell? ⟨ge, ei * 8 + 1, none⟩ = some (.int .i64 eay) ∧ w'.cell? ⟨ge, ei * 8 + 2, none⟩ = some (.int .i64 ebx) ∧ w'.cell? ⟨ge, ei * 8 + 2 + 1, none⟩ = some (.int .i64 eby) ∧ w'.cell? ⟨ge, ej * 8, none⟩ = some (.int .i64 fax) ∧ w'.cell? ⟨ge, ej * 8 + 1, none⟩ = some (.int .i64 fay) ∧ w'.cell? ⟨ge, ej * 8 + 2, none⟩ = some (.int .i64 fbx) ∧ w'.cell? ⟨ge, ej * 8 + 2 + 1, none⟩ = some (.int .i64 fby))
    (first
      | go_keep
      | (go_split_ands; refine ⟨?_, ?_, ?_, ?_, ?_, ?_, ?_, ?_, ?_, ?_, ?_, ?_, ?_⟩ <;> (exact hg4.cell (by assumption))))
    (first | (go_at_call 38; refine (xy_is fbx fby _).mono ?_; rintro e w4 ⟨rfl, hg4⟩))
  go_wp2
  go_ret
  exact ⟨rfl, ((((Grew.refl W).drew.trans hg1).drew.trans hg2).drew.trans hg3).drew.trans hg4⟩

end Go.Proofs.Qxb6609068a.Srt
