/-
  CONTRACT of meetTailRight on the cuts that meet makes: every way at once.
-/
import Derived.Test.Qxb6609068aLawA
import Derived.Test.Qxb6609068aTail
import Derived.Test.Qxb6609068aTouchA
import Derived.Test.Qxb6609068aTouchB
namespace Go.Proofs.Qxb6609068a.Small
open Go.ChangeShapes Go.WideShapes Go.ChangeAt Go.RowKit
set_option linter.unusedVariables false

theorem new_touch {lo hi : Nat} {eax eay ebx eby fax fay fbx fby : Int} (hx : crossV eax eay ebx eby fax fay fbx fby = false) :
    newCuts lo hi eax eay ebx eby fax fay fbx fby = (if openB eax eay fax fay fbx fby then [((hi : Int), eax, eay)] else []) ++ ((if openB ebx eby fax fay fbx fby then [((hi : Int), ebx, eby)] else []) ++ ((if openB fax fay eax eay ebx eby then [((lo : Int), fax, fay)] else []) ++ (if openB fbx fby eax eay ebx eby then [((lo : Int), fbx, fby)] else []))) := by
  unfold crossV at hx
  unfold newCuts
  rw [hx]
  simp only [Bool.false_eq_true, if_false, ← open_on]

theorem new_cross {lo hi : Nat} {eax eay ebx eby fax fay fbx fby : Int} (hx : crossV eax eay ebx eby fax fay fbx fby = true) :
    newCuts lo hi eax eay ebx eby fax fay fbx fby = [((lo : Int), (eax + offZ (oriZ fax fay fbx fby eax eay) (oriZ fax fay fbx fby eax eay - oriZ fax fay fbx fby ebx eby) (ebx - eax)), (eay + offZ (oriZ fax fay fbx fby eax eay) (oriZ fax fay fbx fby eax eay - oriZ fax fay fbx fby ebx eby) (eby - eay))), ((hi : Int), (eax + offZ (oriZ fax fay fbx fby eax eay) (oriZ fax fay fbx fby eax eay - oriZ fax fay fbx fby ebx eby) (ebx - eax)), (eay + offZ (oriZ fax fay fbx fby eax eay) (oriZ fax fay fbx fby eax eay - oriZ fax fay fbx fby ebx eby) (eby - eay)))] := by
  unfold crossV at hx
  unfold newCuts
  rw [if_pos hx]

theorem tail_is (s : Segs) (lo hi m g o c : Nat) (hm : (cutsAt s lo hi).length = m) (k1 : SegIn s lo) (k2 : SegIn s hi) (w : World)
    (ht : ∀ k, k < m → w.cell? ⟨g, o + k * 3, none⟩ = some (.int .i64 ((cutsAt s lo hi).getD k (0, 0, 0)).1) ∧ w.cell? ⟨g, o + k * 3 + 1, none⟩ = some (.int .i64 ((cutsAt s lo hi).getD k (0, 0, 0)).2.1) ∧ w.cell? ⟨g, o + k * 3 + 2, none⟩ = some (.int .i64 ((cutsAt s lo hi).getD k (0, 0, 0)).2.2)) :
    Calls Try.prog 18 #[.slice (some ⟨g, o, none⟩) m c, sgv (s.ax lo) (s.ay lo) (s.bx lo) (s.by' lo) (s.rg lo) (s.ix lo) (s.t0 lo) (s.t1 lo), sgv (s.ax hi) (s.ay hi) (s.bx hi) (s.by' hi) (s.rg hi) (s.ix hi) (s.t0 hi) (s.t1 hi), .int .i64 lo, .int .i64 hi] w fun e w' => e = .returned (.bool true) ∧ Below w.heap.size w w' := by
  obtain ⟨p0, p1, p2, p3⟩ := k1
  obtain ⟨q0, q1, q2, q3⟩ := k2
  cases hx : crossV (s.ax lo) (s.ay lo) (s.bx lo) (s.by' lo) (s.ax hi) (s.ay hi) (s.bx hi) (s.by' hi)
  · have e := new_touch (lo := lo) (hi := hi) hx
    change cutsAt s lo hi = _ at e
    cases g1 : openB (s.ax lo) (s.ay lo) (s.ax hi) (s.ay hi) (s.bx hi) (s.by' hi)
    · cases g2 : openB (s.bx lo) (s.by' lo) (s.ax hi) (s.ay hi) (s.bx hi) (s.by' hi)
      · cases g3 : openB (s.ax hi) (s.ay hi) (s.ax lo) (s.ay lo) (s.bx lo) (s.by' lo)
        · cases g4 : openB (s.bx hi) (s.by' hi) (s.ax lo) (s.ay lo) (s.bx lo) (s.by' lo)
          · rw [g1, g2, g3, g4] at e
            rw [e] at hm ht
            subst hm
            exact touch_0000 g o c lo hi _ _ _ _ _ _ _ _ _ _ _ _ _ _ _ _ w p0 p1 p2 p3 q0 q1 q2 q3 hx g1 g2 g3 g4 ht
          · rw [g1, g2, g3, g4] at e
            rw [e] at hm ht
            subst hm
            exact touch_0001 g o c lo hi _ _ _ _ _ _ _ _ _ _ _ _ _ _ _ _ w p0 p1 p2 p3 q0 q1 q2 q3 hx g1 g2 g3 g4 ht
        · cases g4 : openB (s.bx hi) (s.by' hi) (s.ax lo) (s.ay lo) (s.bx lo) (s.by' lo)
          · rw [g1, g2, g3, g4] at e
            rw [e] at hm ht
            subst hm
            exact touch_0010 g o c lo hi _ _ _ _ _ _ _ _ _ _ _ _ _ _ _ _ w p0 p1 p2 p3 q0 q1 q2 q3 hx g1 g2 g3 g4 ht
          · rw [g1, g2, g3, g4] at e
            rw [e] at hm ht
            subst hm
            exact touch_0011 g o c lo hi _ _ _ _ _ _ _ _ _ _ _ _ _ _ _ _ w p0 p1 p2 p3 q0 q1 q2 q3 hx g1 g2 g3 g4 ht
      · cases g3 : openB (s.ax hi) (s.ay hi) (s.ax lo) (s.ay lo) (s.bx lo) (s.by' lo)
        · cases g4 : openB (s.bx hi) (s.by' hi) (s.ax lo) (s.ay lo) (s.bx lo) (s.by' lo)
          · rw [g1, g2, g3, g4] at e
            rw [e] at hm ht
            subst hm
            exact touch_0100 g o c lo hi _ _ _ _ _ _ _ _ _ _ _ _ _ _ _ _ w p0 p1 p2 p3 q0 q1 q2 q3 hx g1 g2 g3 g4 ht
          · rw [g1, g2, g3, g4] at e
            rw [e] at hm ht
            subst hm
            exact touch_0101 g o c lo hi _ _ _ _ _ _ _ _ _ _ _ _ _ _ _ _ w p0 p1 p2 p3 q0 q1 q2 q3 hx g1 g2 g3 g4 ht
        · cases g4 : openB (s.bx hi) (s.by' hi) (s.ax lo) (s.ay lo) (s.bx lo) (s.by' lo)
          · rw [g1, g2, g3, g4] at e
            rw [e] at hm ht
            subst hm
            exact touch_0110 g o c lo hi _ _ _ _ _ _ _ _ _ _ _ _ _ _ _ _ w p0 p1 p2 p3 q0 q1 q2 q3 hx g1 g2 g3 g4 ht
          · rw [g1, g2, g3, g4] at e
            rw [e] at hm ht
            subst hm
            exact touch_0111 g o c lo hi _ _ _ _ _ _ _ _ _ _ _ _ _ _ _ _ w p0 p1 p2 p3 q0 q1 q2 q3 hx g1 g2 g3 g4 ht
    · cases g2 : openB (s.bx lo) (s.by' lo) (s.ax hi) (s.ay hi) (s.bx hi) (s.by' hi)
      · cases g3 : openB (s.ax hi) (s.ay hi) (s.ax lo) (s.ay lo) (s.bx lo) (s.by' lo)
        · cases g4 : openB (s.bx hi) (s.by' hi) (s.ax lo) (s.ay lo) (s.bx lo) (s.by' lo)
          · rw [g1, g2, g3, g4] at e
            rw [e] at hm ht
            subst hm
            exact touch_1000 g o c lo hi _ _ _ _ _ _ _ _ _ _ _ _ _ _ _ _ w p0 p1 p2 p3 q0 q1 q2 q3 hx g1 g2 g3 g4 ht
          · rw [g1, g2, g3, g4] at e
            rw [e] at hm ht
            subst hm
            exact touch_1001 g o c lo hi _ _ _ _ _ _ _ _ _ _ _ _ _ _ _ _ w p0 p1 p2 p3 q0 q1 q2 q3 hx g1 g2 g3 g4 ht
        · cases g4 : openB (s.bx hi) (s.by' hi) (s.ax lo) (s.ay lo) (s.bx lo) (s.by' lo)
          · rw [g1, g2, g3, g4] at e
            rw [e] at hm ht
            subst hm
            exact touch_1010 g o c lo hi _ _ _ _ _ _ _ _ _ _ _ _ _ _ _ _ w p0 p1 p2 p3 q0 q1 q2 q3 hx g1 g2 g3 g4 ht
          · rw [g1, g2, g3, g4] at e
            rw [e] at hm ht
            subst hm
            exact touch_1011 g o c lo hi _ _ _ _ _ _ _ _ _ _ _ _ _ _ _ _ w p0 p1 p2 p3 q0 q1 q2 q3 hx g1 g2 g3 g4 ht
      · cases g3 : openB (s.ax hi) (s.ay hi) (s.ax lo) (s.ay lo) (s.bx lo) (s.by' lo)
        · cases g4 : openB (s.bx hi) (s.by' hi) (s.ax lo) (s.ay lo) (s.bx lo) (s.by' lo)
          · rw [g1, g2, g3, g4] at e
            rw [e] at hm ht
            subst hm
            exact touch_1100 g o c lo hi _ _ _ _ _ _ _ _ _ _ _ _ _ _ _ _ w p0 p1 p2 p3 q0 q1 q2 q3 hx g1 g2 g3 g4 ht
          · rw [g1, g2, g3, g4] at e
            rw [e] at hm ht
            subst hm
            exact touch_1101 g o c lo hi _ _ _ _ _ _ _ _ _ _ _ _ _ _ _ _ w p0 p1 p2 p3 q0 q1 q2 q3 hx g1 g2 g3 g4 ht
        · cases g4 : openB (s.bx hi) (s.by' hi) (s.ax lo) (s.ay lo) (s.bx lo) (s.by' lo)
          · rw [g1, g2, g3, g4] at e
            rw [e] at hm ht
            subst hm
            exact touch_1110 g o c lo hi _ _ _ _ _ _ _ _ _ _ _ _ _ _ _ _ w p0 p1 p2 p3 q0 q1 q2 q3 hx g1 g2 g3 g4 ht
          · rw [g1, g2, g3, g4] at e
            rw [e] at hm ht
            subst hm
            exact touch_1111 g o c lo hi _ _ _ _ _ _ _ _ _ _ _ _ _ _ _ _ w p0 p1 p2 p3 q0 q1 q2 q3 hx g1 g2 g3 g4 ht
  · have e := new_cross (lo := lo) (hi := hi) hx
    change cutsAt s lo hi = _ at e
    rw [e] at hm ht
    subst hm
    have h0 := ht 0 (by simp)
    have h1 := ht 1 (by simp)
    rw [Nat.zero_mul, Nat.add_zero] at h0
    rw [Nat.one_mul] at h1
    exact tail_cross g o c lo hi _ _ _ _ _ _ _ _ _ _ _ _ _ _ _ _ _ _ w p0 p1 p2 p3 q0 q1 q2 q3 h0.1 h0.2.1 h0.2.2 h1.1 h1.2.1 h1.2.2 hx (cross_at _ _ _ _ _ _ _ _ p0 p1 p2 p3 q0 q1 q2 q3 hx)

theorem tail_at (s : Segs) (lo hi m g o o' c : Nat) (hm : (cutsAt s lo hi).length = m) (k1 : SegIn s lo) (k2 : SegIn s hi) (w : World)
    (ht : ∀ k, k < m → w.cell? ⟨g, o + k * 3, none⟩ = some (.int .i64 ((cutsAt s lo hi).getD k (0, 0, 0)).1) ∧ w.cell? ⟨g, o + k * 3 + 1, none⟩ = some (.int .i64 ((cutsAt s lo hi).getD k (0, 0, 0)).2.1) ∧ w.cell? ⟨g, o + k * 3 + 2, none⟩ = some (.int .i64 ((cutsAt s lo hi).getD k (0, 0, 0)).2.2)) :
    Calls Try.prog 18 #[.slice (if m = 0 then some ⟨g, o', none⟩ else some ⟨g, o, none⟩) m c, sgv (s.ax lo) (s.ay lo) (s.bx lo) (s.by' lo) (s.rg lo) (s.ix lo) (s.t0 lo) (s.t1 lo), sgv (s.ax hi) (s.ay hi) (s.bx hi) (s.by' hi) (s.rg hi) (s.ix hi) (s.t0 hi) (s.t1 hi), .int .i64 lo, .int .i64 hi] w fun e w' => e = .returned (.bool true) ∧ Below w.heap.size w w' := by
  by_cases h0 : m = 0
  · rw [if_pos h0]
    exact tail_is s lo hi m g o' c hm k1 k2 w (fun k hk => by omega)
  · rw [if_neg h0]
    exact tail_is s lo hi m g o c hm k1 k2 w ht

end Go.Proofs.Qxb6609068a.Small
