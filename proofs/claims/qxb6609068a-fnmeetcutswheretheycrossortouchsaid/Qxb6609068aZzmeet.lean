/-
  CONTRACT of ZZmeet.
-/
import Derived.Test.Qxb6609068aMeetX
import Derived.Test.Qxb6609068aMeetN
import Derived.Test.Qxb6609068aMoved
namespace Go.Proofs.Qxb6609068a.Small
open Go.ChangeShapes Go.WideShapes Go.ChangeAt Go.RowKit
open Fl (eB roundBits)
set_option linter.unusedVariables false

theorem zzmeet_is (be ne lo hi : Nat) (tx ty eax eay ebx eby fax fay fbx fby : Int) (base : Nat) (v : Value) (n : Nat) (xs : List Value) (w : World) (hne : ne ≤ 8192) (h1 : lo ≤ hi) (h2 : hi < ne)
    (he : EdgeAt w be lo eax eay ebx eby) (hf : EdgeAt w be hi fax fay fbx fby)
    (t0 : -536870912 ≤ tx ∧ tx ≤ 536870912) (t1 : -536870912 ≤ ty ∧ ty ≤ 536870912)
    (r0 : -536870912 ≤ eax - tx ∧ eax - tx ≤ 536870912) (r1 : -536870912 ≤ eay - ty ∧ eay - ty ≤ 536870912) (r2 : -536870912 ≤ ebx - tx ∧ ebx - tx ≤ 536870912) (r3 : -536870912 ≤ eby - ty ∧ eby - ty ≤ 536870912)
    (r4 : -536870912 ≤ fax - tx ∧ fax - tx ≤ 536870912) (r5 : -536870912 ≤ fay - ty ∧ fay - ty ≤ 536870912) (r6 : -536870912 ≤ fbx - tx ∧ fbx - tx ≤ 536870912) (r7 : -536870912 ≤ fby - ty ∧ fby - ty ≤ 536870912)
    (hown : w.ownsRow base 66 3 v n xs) (hbase : base ≤ w.heap.size) (hn : n ≤ 65536) (hbe : be < base) (a b : Nat) (hab : (a = lo ∧ b = hi) ∨ (a = hi ∧ b = lo)) :
    Calls Try.prog 17 #[.slice (some ⟨be, 0, none⟩) ne ne, .int .i64 a, .int .i64 b, v] w fun e w' => MeetPost lo hi eax eay ebx eby fax fay fbx fby base n xs w e w' := by
  have HM : Hid (∀ W, W = w → Calls Try.prog 34 #[.slice (some ⟨be, 0, none⟩) ne ne, .int .i64 a, .int .i64 b, v] W fun e w' => MeetPost lo hi eax eay ebx eby fax fay fbx fby base n xs w e w') := by
    intro W hW
    subst hW
    cases hx : crossV eax eay ebx eby fax fay fbx fby
    · exact meet_plain be ne lo hi tx ty eax eay ebx eby fax fay fbx fby base v n xs _ hne h1 h2 he hf t0 t1 r0 r1 r2 r3 r4 r5 r6 r7 hown hbase hn hbe hx a b hab
    · exact meet_cross be ne lo hi tx ty eax eay ebx eby fax fay fbx fby base v n xs _ hne h1 h2 he hf t0 t1 r0 r1 r2 r3 r4 r5 r6 r7 hown hbase hn hbe hx a b hab
  clear he hf t0 t1 r0 r1 r2 r3 r4 r5 r6 r7 hown hbase hn hbe hab hne h1 h2
  go_enter Try.func17, Try.ntmps17
  go_wp2_with fail
  refine (HM.out _ rfl).mono ?_
  rintro e w1 ⟨v', rfl, ho, hb⟩
  have HO : Hid _ := ho
  have HB : Hid _ := hb
  clear ho hb
  go_wp2
  go_ret
  exact ⟨v', rfl, HO.out, HB.out⟩

end Go.Proofs.Qxb6609068a.Small
