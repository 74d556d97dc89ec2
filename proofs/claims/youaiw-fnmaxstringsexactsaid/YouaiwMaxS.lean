import Derived.Test.YouaiwMaxN
import Derived.Test.YouaiwStrPlain
import Derived.Deep.QuietTactic
import Derived.BigQuiet
namespace Go.Proofs.Youaiw
open Go.RowKit

theorem as9ok (v : Value) (w : World) : (Instr.typeAssert (.iface 9 v) 20 9 true).run Uaig.prog w = .ok (.tuple #[v, .bool true]) w := by kernel_rfl
theorem as9nil (w : World) : (Instr.typeAssert .nilIface 20 9 true).run Uaig.prog w = .ok (.tuple #[.string ⟨#[]⟩, .bool false]) w := by kernel_rfl
theorem as24of9 (v : Value) (w : World) : (Instr.typeAssert (.iface 9 v) 20 24 true).run Uaig.prog w = .ok (.tuple #[.float .f64 0, .bool false]) w := by kernel_rfl

attribute [local go_sem] as42ok as9ok as9nil as24of9

set_option maxHeartbeats 400000 in
theorem copyStrings_any (b off len cap : Nat) (s : Nat → ByteArray) (w : World) (hlen : len ≤ 131072)
    (hc : ∀ i, i < len → w.cell? ⟨b, off + i, none⟩ = some (.string (s i))) :
    Calls Uaig.prog 19 #[.slice (some ⟨b, off, none⟩) len cap] w fun e w' => e = .returned (.slice (some ⟨w.heap.size, 0, none⟩) len len) ∧
      Below w.heap.size w w' ∧ w'.rowIs w.heap.size 9 len (fun i => .string (s i)) := by
  have hmk := run_make_row' (P := Uaig.prog) 33 9 (.string ByteArray.empty) 16 Uaig.underlying33 info9 rfl .i64 .i64 len (by omega) (by omega)
  have hnil := fun w => Lib.run_eql_slice_nil (P := Uaig.prog) w 33 9 (some ⟨b, off, none⟩) len cap 0 0 Uaig.underlying33
  go_enter Uaig.func19, Uaig.ntmps19
  go_wp2
  go_loopw [4] (fun i wr => ∃ k : Nat, k ≤ len ∧ i = .int .i64 k ∧ Filling w wr 9 len (fun i => .string (s i)) (.string ByteArray.empty) k) (fun i _ => len - (intOf i).toNat)
  case atStart => exact ⟨0, Nat.zero_le _, rfl, Filling.start ..⟩
  case round =>
    obtain ⟨k, hk, rfl, hF⟩ := hrel
    by_cases hlt : k < len
    · have h1 : wr.cell? ⟨b, off + k, none⟩ = some (.string (s k)) := (hF.below.cell (lt_of_cell (hc k hlt))).trans (hc k hlt)
      have h2 := hF.row.cell hlt
      have h3 := hF.row.frozen k
      go_wp2
      go_roundw
      case rel => exact ⟨k + 1, by omega, by go_num, hF.step⟩
      case measure => simp [intOf]; omega
    · have hk' : k = len := by omega
      go_wp2
      go_ret
      subst hk'
      exact ⟨rfl, hF.below, filled_all hF.row⟩

set_option maxHeartbeats 400000 in
theorem copyStrings_empty (a : Addr) (cap : Nat) (w : World) :
    Calls Uaig.prog 19 #[.slice (some a) 0 cap] w fun e w' => e = .returned (.slice (some ⟨w.heap.size, 0, none⟩) 0 0) ∧ Below w.heap.size w w' := by
  have hmk : ∀ w : World, (Instr.makeSlice 33 (.int .i64 0) (.int .i64 0)).run Uaig.prog w = .ok (.slice (some ⟨w.heap.size, 0, none⟩) 0 0) (w.alloc (.cells (madeCells #[.string ByteArray.empty] 0) 9)) :=
    run_make_row' (P := Uaig.prog) 33 9 (.string ByteArray.empty) 16 Uaig.underlying33 info9 rfl .i64 .i64 0 (by omega) (by omega)
  have hnil := fun w => Lib.run_eql_slice_nil (P := Uaig.prog) w 33 9 (some a) 0 cap 0 0 Uaig.underlying33
  go_enter Uaig.func19, Uaig.ntmps19
  go_wp2
  go_loopw [4] (fun i wr => i = .int .i64 0 ∧ Below w.heap.size w wr) (fun _ _ => 0)
  case atStart => exact ⟨rfl, (Below.refl _ _).alloc (Nat.le_refl _) _⟩
  case round =>
    obtain ⟨rfl, hb⟩ := hrel
    go_wp2
    go_ret
    exact ⟨rfl, hb⟩

set_option maxHeartbeats 400000 in
theorem copyStrings_nil (w : World) :
    Calls Uaig.prog 19 #[.slice none 0 0] w fun e w' => e = .returned (.slice none 0 0) ∧ w = w' := by
  have hnil := fun w => Lib.run_eql_slice_nil (P := Uaig.prog) w 33 9 none 0 0 0 0 Uaig.underlying33
  go_enter Uaig.func19, Uaig.ntmps19
  go_wp2
  go_ret
  exact ⟨rfl, rfl⟩

set_option maxHeartbeats 400000 in
/-- toArrayNum over strings: the first element is no number. -/
theorem toArrayNum_strs (b n : Nat) (s : Nat → ByteArray) (w : World) (hlen : n ≤ 131072) (h1 : 1 ≤ n) (hr : w.rowIs b 20 n (fun i => .iface 9 (.string (s i)))) :
    Calls Uaig.prog 29 #[.iface 42 (.slice (some ⟨b, 0, none⟩) n n)] w fun e w' => e = .returned (.tuple #[.slice none 0 0, .bool false]) ∧ Below w.heap.size w w' := by
  have hmk := run_make_row' (P := Uaig.prog) 28 24 (.float .f64 0) 8 Uaig.underlying28 info24 rfl .i64 .i64 n (by omega) (by omega)
  have hblt := hr.lt
  have hp : (0 : Int) < (n : Int) := by omega
  go_enter Uaig.func29, Uaig.ntmps29
  go_wp2
  go_loopw [22] (fun i wr => i = .int .i64 0 ∧ Below w.heap.size w wr) (fun _ _ => 0)
  case atStart => exact ⟨rfl, (Below.refl _ _).alloc (Nat.le_refl _) _⟩
  case round =>
    obtain ⟨rfl, hb⟩ := hrel
    have h1 : wr.cell? ⟨b, 0, none⟩ = some (.iface 9 (.string (s 0))) := (hb.cell (by exact hblt)).trans (hr.cell (by omega))
    go_wp2
    go_ret2
    exact ⟨rfl, hb⟩

set_option maxHeartbeats 400000 in
theorem toArrayStr_any (b n : Nat) (s : Nat → ByteArray) (w : World) (hlen : n ≤ 131072) (hr : w.rowIs b 20 n (fun i => .iface 9 (.string (s i)))) :
    Calls Uaig.prog 30 #[.iface 42 (.slice (some ⟨b, 0, none⟩) n n)] w fun e w' => e = .returned (.tuple #[.slice (some ⟨w.heap.size, 0, none⟩) n n, .bool true]) ∧
      Below w.heap.size w w' ∧ w'.rowIs w.heap.size 9 n (fun i => .string (s i)) := by
  have hmk := run_make_row' (P := Uaig.prog) 33 9 (.string ByteArray.empty) 16 Uaig.underlying33 info9 rfl .i64 .i64 n (by omega) (by omega)
  have hblt := hr.lt
  go_enter Uaig.func30, Uaig.ntmps30
  go_wp2
  go_loopw [22] (fun i wr => ∃ k : Nat, k ≤ n ∧ i = .int .i64 k ∧ Filling w wr 9 n (fun i => .string (s i)) (.string ByteArray.empty) k) (fun i _ => n - (intOf i).toNat)
  case atStart => exact ⟨0, Nat.zero_le _, rfl, Filling.start ..⟩
  case round =>
    obtain ⟨k, hk, rfl, hF⟩ := hrel
    by_cases hlt : k < n
    · have h1 : wr.cell? ⟨b, k, none⟩ = some (.iface 9 (.string (s k))) := (hF.below.cell (by exact hblt)).trans (hr.cell hlt)
      have h2 := hF.row.cell hlt
      have h3 := hF.row.frozen k
      go_wp2
      go_roundw
      case rel => exact ⟨k + 1, by omega, by go_num, hF.step⟩
      case measure => simp [intOf]; omega
    · have hk' : k = n := by omega
      go_wp2
      go_ret2
      subst hk'
      exact ⟨rfl, hF.below, filled_all hF.row⟩
end Go.Proofs.Youaiw
