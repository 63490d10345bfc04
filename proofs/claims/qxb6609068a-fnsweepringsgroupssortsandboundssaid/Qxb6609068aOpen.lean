/-
  THE SLICES OF STRUCTS THAT COME IN, opened: rows of segments (eight cells) and of cuts (three).
-/
import Derived.Test.Qxb6609068aMoved
import Derived.Deep.Slices
import Derived.Deep.Fields
import Derived.ChangeSame
import Derived.OpenShut
namespace Go.Proofs.Qxb6609068a.Small
open Go.ChangeShapes Go.WideShapes Go.ChangeAt Go.RowKit Go.Deep
set_option linter.unusedVariables false

theorem cell_made (w : World) (vs : Array Value) (t : TypeId) (i : Nat) (v : Value) (h : vs[i]? = some v) : (w.alloc (.cells vs t)).drew.cell? ⟨w.heap.size, i, none⟩ = some v := by
  simp only [World.cell?, World.drew, World.alloc]
  simp [h]

section
variable {H : Type} {enc : TypeId × Value → H} {P : Program} {w : World} {base : Nat} {spare : Nat → Bool} {held : Bool}

theorem trod_float {t : TypeId} {k : FloatKind} {fuel : Nat} {v : Value} {x : DataW H × List MemPlace} (ht : P.underlying t = some (.float k)) (h : DataW.trod enc P w base spare held fuel t [v] = some x) : ∃ b, v = .float k b := by
  cases fuel with
  | zero => simp [DataW.trod] at h
  | succ n =>
    unfold DataW.trod at h
    rw [ht] at h
    split at h <;> simp_all

/-- a slice of structs of one-cell fields, opened cell by cell -/
theorem open_row {t e : TypeId} {fs : Array Field} {fuel len cap : Nat} {a : Option Addr} {x : DataW H × List MemPlace} (ht : P.underlying t = some (.slice e)) (hs : P.underlying e = some (.struct fs))
    (hone : ∀ (i : Nat) (f : Field), fs[i]? = some f → f.offset = i ∧ P.cellsOf f.type = 1) (hC : P.cellsOf e = fs.size) (hpos : 0 < fs.size) (h : DataW.trod enc P w base spare held fuel t [.slice a len cap] = some x) :
    len ≤ cap ∧ cap ≤ maxLen ∧ (0 < len → ∃ (b o : Nat) (V : Nat → Nat → Value), a = some ⟨b, o, none⟩ ∧ ∀ k, k < len → ∀ (i : Nat) (f : Field), fs[i]? = some f → w.cell? ⟨b, o + k * fs.size + i, none⟩ = some (V k i) ∧ ∃ n y, DataW.trod enc P w base spare held n f.type [V k i] = some y) := by
  rcases open_slice ht h with ⟨hc, _⟩ | ⟨a', len', cap', m, n, D, Pl, hc, hb, hl, hm, hmm, _, hx⟩
  · simp only [List.cons.injEq, Value.slice.injEq, and_true] at hc
    obtain ⟨rfl, rfl, rfl⟩ := hc
    exact ⟨Nat.le_refl _, Nat.zero_le _, fun h => absurd h (by omega)⟩
  simp only [List.cons.injEq, Value.slice.injEq, and_true] at hc
  obtain ⟨rfl, rfl, rfl⟩ := hc
  refine ⟨hl, hm, fun hp => ?_⟩
  have hle : len ≤ m := by rw [hmm]; split <;> omega
  rw [hC] at hx
  obtain ⟨b, o, spot⟩ := a'
  have hspot : spot = none := by
    obtain ⟨cs, h1, h2⟩ := hx 0 (by omega)
    obtain ⟨_, hlen, hcell⟩ := World.cells?_some h1
    have h0 := hcell 0 hpos
    rw [List.getElem?_eq_getElem (by omega)] at h0
    simpa [Addr.add] using World.cell?_spot h0
  subst hspot
  obtain ⟨V, hV⟩ := choose_lt (α := Nat → Value) (n := len) (p := fun k V => ∀ (i : Nat) (f : Field), fs[i]? = some f → w.cell? ⟨b, o + k * fs.size + i, none⟩ = some (V i) ∧ ∃ n y, DataW.trod enc P w base spare held n f.type [V i] = some y) (fun k hk => by
    obtain ⟨cs, h1, h2⟩ := hx k (by omega)
    obtain ⟨_, hlen, hcell⟩ := World.cells?_some h1
    obtain ⟨xs, n', _, _, _, hxl, hf⟩ := DataW.trod_struct hs h2
    refine ⟨fun i => cs.getD i undef, fun i f hi => ?_⟩
    have hlt : i < fs.size := (Array.getElem?_eq_some_iff.1 hi).1
    obtain ⟨ho, hc1⟩ := hone i f hi
    have g := hf i f hi
    rw [ho, hc1] at g
    rw [take1_drop cs i undef (by omega), List.getElem?_eq_getElem (by omega)] at g
    refine ⟨?_, _, _, g⟩
    have := hcell i hlt
    rw [add_plain, add_plain, List.getElem?_eq_getElem (by omega)] at this
    rw [this]
    simp [List.getD, List.getElem?_eq_getElem (show i < cs.length by omega)])
  exact ⟨b, o, V, rfl, hV⟩
end

/-- the segments that come in -/
def SegRow (w : World) (a : Option Addr) (n : Nat) : Prop := 0 < n → ∃ (b o : Nat) (s : Segs), a = some ⟨b, o, none⟩ ∧ ∀ k, k < n → SegAt w b o s k

def intIn : Value → Int
  | .int _ n => n
  | _ => 0
def floatIn : Value → Nat
  | .float _ n => n
  | _ => 0

theorem open_segs {H : Type} {enc : TypeId × Value → H} {w : World} {base fuel len cap : Nat} {spare : Nat → Bool} {held : Bool} {a : Option Addr} {x : DataW H × List MemPlace} (h : DataW.trod enc Try.prog w base spare held fuel 29 [.slice a len cap] = some x) :
    len ≤ cap ∧ cap ≤ maxLen ∧ SegRow w a len := by
  obtain ⟨h1, h2, h3⟩ := open_row Try.underlying29 Try.underlying35 (hone_of (by kernel_rfl)) (by kernel_rfl) (by decide) h
  refine ⟨h1, h2, fun hp => ?_⟩
  obtain ⟨b, o, V, rfl, hV⟩ := h3 hp
  refine ⟨b, o, ⟨fun k => intIn (V k 0), fun k => intIn (V k 1), fun k => intIn (V k 2), fun k => intIn (V k 3), fun k => intIn (V k 4), fun k => intIn (V k 5), fun k => floatIn (V k 6), fun k => floatIn (V k 7)⟩, rfl, fun k hk => ?_⟩
  have key := hV k hk
  have ki : ∀ (i : Nat) (f : Field) (e : IntKind) , (∃ n y, DataW.trod enc Try.prog w base spare held n f.type [V k i] = some y) → Try.prog.underlying f.type = some (.int e) → V k i = .int e (intIn (V k i)) := by
    intro i f e ⟨n, y, hy⟩ ht
    obtain ⟨m, hm, _⟩ := DataW.trod_int ht hy
    simp only [List.cons.injEq, and_true] at hm
    rw [hm]; rfl
  have kf : ∀ (i : Nat) (f : Field) (e : FloatKind) , (∃ n y, DataW.trod enc Try.prog w base spare held n f.type [V k i] = some y) → Try.prog.underlying f.type = some (.float e) → V k i = .float e (floatIn (V k i)) := by
    intro i f e ⟨n, y, hy⟩ ht
    obtain ⟨m, hm⟩ := trod_float ht hy
    rw [hm]; rfl
  have k0 := key 0 _ rfl
  have k1 := key 1 _ rfl
  have k2 := key 2 _ rfl
  have k3 := key 3 _ rfl
  have k4 := key 4 _ rfl
  have k5 := key 5 _ rfl
  have k6 := key 6 _ rfl
  have k7 := key 7 _ rfl
  unfold SegAt
  refine ⟨?_, ?_, ?_, ?_, ?_, ?_, ?_, ?_⟩
  · rw [← ki 0 _ .i64 k0.2 Try.underlying2]; exact k0.1
  · rw [← ki 1 _ .i64 k1.2 Try.underlying2]; exact k1.1
  · rw [← ki 2 _ .i64 k2.2 Try.underlying2]; exact k2.1
  · rw [← ki 3 _ .i64 k3.2 Try.underlying2]; exact k3.1
  · rw [← ki 4 _ .i64 k4.2 Try.underlying3]; exact k4.1
  · rw [← ki 5 _ .i64 k5.2 Try.underlying3]; exact k5.1
  · rw [← kf 6 _ .f64 k6.2 Try.underlying33]; exact k6.1
  · rw [← kf 7 _ .f64 k7.2 Try.underlying33]; exact k7.1

theorem open_cuts {H : Type} {enc : TypeId × Value → H} {w : World} {base fuel len cap : Nat} {spare : Nat → Bool} {held : Bool} {a : Option Addr} {x : DataW H × List MemPlace} (h : DataW.trod enc Try.prog w base spare held fuel 30 [.slice a len cap] = some x) :
    len ≤ cap ∧ cap ≤ maxLen ∧ ∃ q, CutRow w a len q := by
  obtain ⟨h1, h2, h3⟩ := open_row Try.underlying30 Try.underlying43 (hone_of (by kernel_rfl)) (by kernel_rfl) (by decide) h
  refine ⟨h1, h2, ?_⟩
  by_cases hp : 0 < len
  case neg => exact ⟨fun _ => (0, 0, 0), fun h => absurd h hp⟩
  obtain ⟨b, o, V, rfl, hV⟩ := h3 hp
  refine ⟨fun k => (intIn (V k 0), intIn (V k 1), intIn (V k 2)), fun _ => ⟨b, o, rfl, fun k hk => ?_⟩⟩
  have key := hV k hk
  have ki : ∀ (i : Nat) (f : Field) (e : IntKind) , (∃ n y, DataW.trod enc Try.prog w base spare held n f.type [V k i] = some y) → Try.prog.underlying f.type = some (.int e) → V k i = .int e (intIn (V k i)) := by
    intro i f e ⟨n, y, hy⟩ ht
    obtain ⟨m, hm, _⟩ := DataW.trod_int ht hy
    simp only [List.cons.injEq, and_true] at hm
    rw [hm]; rfl
  have k0 := key 0 _ rfl
  have k1 := key 1 _ rfl
  have k2 := key 2 _ rfl
  refine ⟨?_, ?_, ?_⟩
  · rw [← ki 0 _ .i64 k0.2 Try.underlying3]; exact k0.1
  · rw [← ki 1 _ .i64 k1.2 Try.underlying2]; exact k1.1
  · rw [← ki 2 _ .i64 k2.2 Try.underlying2]; exact k2.1

end Go.Proofs.Qxb6609068a.Small
