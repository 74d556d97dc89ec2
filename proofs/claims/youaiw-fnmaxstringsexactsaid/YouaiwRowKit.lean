import Derived.Test.YouaiwRows
import Derived.WalkKit
import Derived.ProofKit
import Derived.OpenShut
import Derived.ChangeOld
import Derived.Below
import Derived.Deep.Slices
namespace Go.Proofs.Youaiw
open Go.ChangeShapes Go.WideShapes Go.ChangeAt Go.RowKit Go.Deep

theorem own : ownKnob Uaig.prog.godebug = none := by kernel_rfl
theorem laidOut : laidOutB Uaig.prog = true := by kernel_rfl

section
variable {H : Type} {enc : TypeId × Value → H} {P : Program} {w : World} {base : Nat} {spare : Nat → Bool} {held : Bool}

/-- A float's cell, read (the kit has this law for bools, integers and strings). -/
theorem trod_float {k : FloatKind} {t : TypeId} {fuel : Nat} {cs : List Value} {x : DataW H × List MemPlace} (ht : P.underlying t = some (.float k)) (h : DataW.trod enc P w base spare held fuel t cs = some x) :
    ∃ n, cs = [.float k n] ∧ x = (.lit (.float k n), []) ∧ (Lit.float k n).wf = true := by
  cases fuel with
  | zero => simp [DataW.trod] at h
  | succ n =>
    unfold DataW.trod at h
    rw [ht] at h
    split at h <;> simp_all

/-- What the walk is told of a slice that came in, cell i holding 'V i': it is nil; or empty; or it leads to a row. -/
def IsRow (w : World) (a : Option Addr) (len cap : Nat) (V : Nat → Value) : Prop :=
  (a = none ∧ len = 0 ∧ cap = 0) ∨ (∃ x, a = some x ∧ len = 0) ∨
  ∃ b off, a = some ⟨b, off, none⟩ ∧ 1 ≤ len ∧ len ≤ maxLen ∧ ∀ i, i < len → w.cell? ⟨b, off + i, none⟩ = some (V i)

theorem isRow_of_cells {a : Addr} {len cap : Nat} {V : Nat → Value} (hm : len ≤ maxLen) (h : ∀ i, i < len → w.cell? (a.add i) = some (V i)) : IsRow w (some a) len cap V := by
  by_cases h0 : len = 0
  · exact .inr (.inl ⟨a, rfl, h0⟩)
  · obtain ⟨b, off, spot⟩ := a
    have hspot : spot = none := by simpa [Addr.add] using World.cell?_spot (h 0 (by omega))
    subst hspot
    exact .inr (.inr ⟨b, off, rfl, by omega, hm, fun j hj => by rw [← Go.WideShapes.add_plain]; exact h j hj⟩)

/-- A slice of floats, opened. -/
theorem open_floats {t e : TypeId} {k : FloatKind} {fuel : Nat} {a : Option Addr} {len cap : Nat} {x : DataW H × List MemPlace} (ht : P.underlying t = some (.slice e)) (he : P.underlying e = some (.float k)) (hc : P.cellsOf e = 1)
    (h : DataW.trod enc P w base (fun _ => true) held fuel t [.slice a len cap] = some x) : ∃ z : Nat → Nat, IsRow w a len cap (fun i => .float k (z i)) := by
  rcases open_slice1 ht hc h with ⟨hcs, _⟩ | ⟨y, l, c, m, n, V, D, Pl, hcs, _, hl, hm, hmm, _, hV⟩
  · simp at hcs
    exact ⟨fun _ => 0, .inl hcs⟩
  · simp at hcs
    obtain ⟨rfl, rfl, rfl⟩ := hcs
    simp only [if_true] at hmm
    subst hmm
    obtain ⟨z, hz⟩ := choose_lt (α := Nat) (n := m) (p := fun i v => w.cell? (y.add i) = some (.float k v)) (fun i hi => by
      obtain ⟨h1, h2⟩ := hV i hi
      obtain ⟨v, hv, _, _⟩ := trod_float he h2
      simp at hv
      exact ⟨v, by rw [h1, hv]⟩)
    exact ⟨z, isRow_of_cells (by omega) (fun i hi => hz i (by omega))⟩

/-- A slice of strings, opened. -/
theorem open_strs' {t e : TypeId} {fuel : Nat} {a : Option Addr} {len cap : Nat} {x : DataW H × List MemPlace} (ht : P.underlying t = some (.slice e)) (he : P.underlying e = some .string) (hc : P.cellsOf e = 1)
    (h : DataW.trod enc P w base (fun _ => true) held fuel t [.slice a len cap] = some x) : ∃ s : Nat → ByteArray, (∀ i, (s i).size ≤ maxLen) ∧ IsRow w a len cap (fun i => .string (s i)) := by
  rcases open_slice1 ht hc h with ⟨hcs, _⟩ | ⟨y, l, c, m, n, V, D, Pl, hcs, _, hl, hm, hmm, _, hV⟩
  · simp at hcs
    exact ⟨fun _ => ByteArray.empty, fun _ => Nat.zero_le _, .inl hcs⟩
  · simp at hcs
    obtain ⟨rfl, rfl, rfl⟩ := hcs
    simp only [if_true] at hmm
    subst hmm
    obtain ⟨z, hz⟩ := choose_lt (α := ByteArray) (n := m) (p := fun i v => w.cell? (y.add i) = some (.string v) ∧ v.size ≤ maxLen) (fun i hi => by
      obtain ⟨h1, h2⟩ := hV i hi
      obtain ⟨v, hv, _, hs⟩ := DataW.trod_string he h2
      simp at hv
      exact ⟨v, by rw [h1, hv], hs⟩)
    refine ⟨fun i => if i < m then z i else ByteArray.empty, fun i => ?_, isRow_of_cells (by omega) (fun i hi => ?_)⟩
    · dsimp only
      split
      · exact (hz i ‹_›).2
      · exact Nat.zero_le _
    · dsimp only
      rw [if_pos (by omega)]
      exact (hz i (by omega)).1
end
end Go.Proofs.Youaiw
