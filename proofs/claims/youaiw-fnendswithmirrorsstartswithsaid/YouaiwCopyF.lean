import Derived.Test.YouaiwRows
import Derived.WalkKit
import Derived.WalkLawsBesides
import Derived.Deep.OwnRows
import Derived.LoopTactic
namespace Go.Proofs.Youaiw
open Go.RowKit

theorem info24 : (Uaig.prog.info? 24).map (fun i => (i.zero, i.size, i.bytes)) = some (some (.float .f64 0), 1, 8) := by kernel_rfl
theorem info20 : (Uaig.prog.info? 20).map (fun i => (i.zero, i.size, i.bytes)) = some (some .nilIface, 1, 16) := by kernel_rfl
theorem info9 : (Uaig.prog.info? 9).map (fun i => (i.zero, i.size, i.bytes)) = some (some (.string ByteArray.empty), 1, 16) := by kernel_rfl

/-- A row that is being filled: the first k cells hold what they shall. -/
def filled (f : Nat → Value) (z : Value) (k : Nat) : Nat → Value := fun j => if j < k then f j else z

theorem filled_step {w : World} {b : Nat} {t : TypeId} {n : Nat} {f : Nat → Value} {z : Value} {k : Nat} (h : w.rowIs b t n (filled f z k)) :
    (w.setCell ⟨b, k, none⟩ (f k)).rowIs b t n (filled f z (k + 1)) := by
  refine (h.set k (f k)).congr fun j _ => ?_
  unfold filled
  by_cases e : j = k
  · subst e; simp
  · rw [if_neg e]
    by_cases hlt : j < k
    · rw [if_pos hlt, if_pos (by omega)]
    · rw [if_neg hlt, if_neg (by omega)]

theorem filled_made (w : World) (z : Value) (n : Nat) (t : TypeId) (f : Nat → Value) : (w.alloc (.cells (madeCells #[z] n) t)).rowIs w.heap.size t n (filled f z 0) :=
  (World.rowIs_made w z n t).congr fun j _ => by simp [filled]

theorem filled_all {w : World} {b : Nat} {t : TypeId} {n : Nat} {f : Nat → Value} {z : Value} (h : w.rowIs b t n (filled f z n)) : w.rowIs b t n f :=
  h.congr fun j hj => by simp [filled, hj]

theorem lt_of_cell {w : World} {a : Addr} {v : Value} (h : w.cell? a = some v) : a.block < w.heap.size := by
  unfold World.cell? at h
  cases hb : w.heap[a.block]? with
  | none => simp [hb] at h
  | some o => exact (Array.getElem?_eq_some_iff.1 hb).1

/-- A store of a float (the kit has this law for integers, bools, strings, pointers, slices and interface values). -/
theorem run_store_float (P : Program) (w : World) (a : Addr) (m : Mode) (k : FloatKind) (n : Nat) : (store a (.float k n) m).run P w = stored P w a (.float k n) m := run_store P w a _ m rfl

attribute [local go_sem] run_store_float

/-- What the loop's relation says of the world. -/
structure Filling (w wr : World) (t : TypeId) (n : Nat) (f : Nat → Value) (z : Value) (k : Nat) : Prop where
  below : Below w.heap.size w wr
  row : wr.rowIs w.heap.size t n (filled f z k)

theorem Filling.start (w : World) (t : TypeId) (n : Nat) (f : Nat → Value) (z : Value) : Filling w (w.alloc (.cells (madeCells #[z] n) t)) t n f z 0 :=
  ⟨(Below.refl _ _).alloc (Nat.le_refl _) _, filled_made w z n t f⟩

theorem Filling.step {w wr : World} {t : TypeId} {n : Nat} {f : Nat → Value} {z : Value} {k : Nat} (h : Filling w wr t n f z k) :
    Filling w (wr.setCell ⟨w.heap.size, k, none⟩ (f k)) t n f z (k + 1) :=
  ⟨h.below.setCell (Nat.le_refl _) _, filled_step h.row⟩

set_option maxHeartbeats 400000 in
theorem copyFloats_any (b off len cap : Nat) (z : Nat → Nat) (w : World) (hlen : len ≤ 65536)
    (hc : ∀ i, i < len → w.cell? ⟨b, off + i, none⟩ = some (.float .f64 (z i))) :
    Calls Uaig.prog 16 #[.slice (some ⟨b, off, none⟩) len cap] w fun e w' => e = .returned (.slice (some ⟨w.heap.size, 0, none⟩) len len) ∧
      Below w.heap.size w w' ∧ w'.rowIs w.heap.size 24 len (fun i => .float .f64 (z i)) := by
  have hmk := run_make_row' (P := Uaig.prog) 28 24 (.float .f64 0) 8 Uaig.underlying28 info24 rfl .i64 .i64 len (by omega) (by omega)
  have hnil := fun w => Lib.run_eql_slice_nil (P := Uaig.prog) w 28 24 (some ⟨b, off, none⟩) len cap 0 0 Uaig.underlying28
  go_enter Uaig.func16, Uaig.ntmps16
  go_wp2
  go_loopw [4] (fun i wr => ∃ k : Nat, k ≤ len ∧ i = .int .i64 k ∧ Filling w wr 24 len (fun i => .float .f64 (z i)) (.float .f64 0) k) (fun i _ => len - (intOf i).toNat)
  case atStart => exact ⟨0, Nat.zero_le _, rfl, Filling.start ..⟩
  case round =>
    obtain ⟨k, hk, rfl, hF⟩ := hrel
    by_cases hlt : k < len
    · have h1 : wr.cell? ⟨b, off + k, none⟩ = some (.float .f64 (z k)) := (hF.below.cell (lt_of_cell (hc k hlt))).trans (hc k hlt)
      have h2 := hF.row.cell hlt
      have h3 := hF.row.frozen k
      go_wp2
      go_roundw
      case rel => exact ⟨k + 1, by omega, by go_num, hF.step⟩
      case measure => simp [intOf]; omega
    · have hk' : k = len := by omega
      go_wp2
      go_ret
      subst hk'
      exact ⟨rfl, hF.below, filled_all hF.row⟩

set_option maxHeartbeats 400000 in
theorem copyFloats_empty (a : Addr) (cap : Nat) (w : World) :
    Calls Uaig.prog 16 #[.slice (some a) 0 cap] w fun e w' => e = .returned (.slice (some ⟨w.heap.size, 0, none⟩) 0 0) ∧ Below w.heap.size w w' := by
  have hmk : ∀ w : World, (Instr.makeSlice 28 (.int .i64 0) (.int .i64 0)).run Uaig.prog w = .ok (.slice (some ⟨w.heap.size, 0, none⟩) 0 0) (w.alloc (.cells (madeCells #[.float .f64 0] 0) 24)) :=
    run_make_row' (P := Uaig.prog) 28 24 (.float .f64 0) 8 Uaig.underlying28 info24 rfl .i64 .i64 0 (by omega) (by omega)
  have hnil := fun w => Lib.run_eql_slice_nil (P := Uaig.prog) w 28 24 (some a) 0 cap 0 0 Uaig.underlying28
  go_enter Uaig.func16, Uaig.ntmps16
  go_wp2
  go_loopw [4] (fun i wr => i = .int .i64 0 ∧ Below w.heap.size w wr) (fun _ _ => 0)
  case atStart => exact ⟨rfl, (Below.refl _ _).alloc (Nat.le_refl _) _⟩
  case round =>
    obtain ⟨rfl, hb⟩ := hrel
    go_wp2
    go_ret
    exact ⟨rfl, hb⟩

set_option maxHeartbeats 400000 in
theorem copyFloats_nil (w : World) :
    Calls Uaig.prog 16 #[.slice none 0 0] w fun e w' => e = .returned (.slice none 0 0) ∧ w = w' := by
  have hnil := fun w => Lib.run_eql_slice_nil (P := Uaig.prog) w 28 24 none 0 0 0 0 Uaig.underlying28
  go_enter Uaig.func16, Uaig.ntmps16
  go_wp2
  go_ret
  exact ⟨rfl, rfl⟩

theorem zzBytes15_yes (ao : Option Addr) (len cap : Nat) (w : World) (h : len ≤ 1048576) :
    Calls Uaig.prog 15 #[.slice ao len cap] w fun e w' => e = .returned (.bool true) ∧ w = w' := by
  go_enter Uaig.func15, Uaig.ntmps15
  go_wp2
  go_ret
  exact ⟨rfl, rfl⟩

theorem zzBytes15_no (ao : Option Addr) (len cap : Nat) (w : World) (h : 1048576 < len) :
    Calls Uaig.prog 15 #[.slice ao len cap] w fun e w' => e = .returned (.bool false) ∧ w = w' := by
  go_enter Uaig.func15, Uaig.ntmps15
  go_wp2
  go_ret
  exact ⟨rfl, rfl⟩
end Go.Proofs.Youaiw
