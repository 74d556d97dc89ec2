import Derived.Test.YouaiwCopyF
import Derived.Test.YouaiwMaxPlain
namespace Go.Proofs.Youaiw
open Go.RowKit

theorem as42ok (v : Value) (w : World) : (Instr.typeAssert (.iface 42 v) 20 42 true).run Uaig.prog w = .ok (.tuple #[v, .bool true]) w := by kernel_rfl
theorem as24ok (v : Value) (w : World) : (Instr.typeAssert (.iface 24 v) 20 24 true).run Uaig.prog w = .ok (.tuple #[v, .bool true]) w := by kernel_rfl
theorem as24nil (w : World) : (Instr.typeAssert .nilIface 20 24 true).run Uaig.prog w = .ok (.tuple #[.float .f64 0, .bool false]) w := by kernel_rfl

attribute [local go_sem] as42ok as24ok as24nil run_store_float

set_option maxHeartbeats 400000 in
theorem toArrayNum_any (b n : Nat) (z : Nat → Nat) (w : World) (hlen : n ≤ 65536) (hr : w.rowIs b 20 n (fun i => .iface 24 (.float .f64 (z i)))) :
    Calls Uaig.prog 29 #[.iface 42 (.slice (some ⟨b, 0, none⟩) n n)] w fun e w' => e = .returned (.tuple #[.slice (some ⟨w.heap.size, 0, none⟩) n n, .bool true]) ∧
      Below w.heap.size w w' ∧ w'.rowIs w.heap.size 24 n (fun i => .float .f64 (z i)) := by
  have hmk := run_make_row' (P := Uaig.prog) 28 24 (.float .f64 0) 8 Uaig.underlying28 info24 rfl .i64 .i64 n (by omega) (by omega)
  have hblt := hr.lt
  go_enter Uaig.func29, Uaig.ntmps29
  go_wp2
  go_loopw [22] (fun i wr => ∃ k : Nat, k ≤ n ∧ i = .int .i64 k ∧ Filling w wr 24 n (fun i => .float .f64 (z i)) (.float .f64 0) k) (fun i _ => n - (intOf i).toNat)
  case atStart => exact ⟨0, Nat.zero_le _, rfl, Filling.start ..⟩
  case round =>
    obtain ⟨k, hk, rfl, hF⟩ := hrel
    by_cases hlt : k < n
    · have h1 : wr.cell? ⟨b, k, none⟩ = some (.iface 24 (.float .f64 (z k))) := (hF.below.cell (by exact hblt)).trans (hr.cell hlt)
      have h2 := hF.row.cell hlt
      have h3 := hF.row.frozen k
      go_wp2
      go_roundw
      case rel => exact ⟨k + 1, by omega, by go_num, hF.step⟩
      case measure => simp [intOf]; omega
    · have hk' : k = n := by omega
      go_wp2
      go_ret2
      subst hk'
      exact ⟨rfl, hF.below, filled_all hF.row⟩

set_option maxHeartbeats 400000 in
theorem jpfMax_empty (b c : Nat) (z : Nat → Nat) (w : World) (hc : w.cell? ⟨c, 0, none⟩ = some (.iface 42 (.slice (some ⟨b, 0, none⟩) 0 0)))
    (hr : w.rowIs b 20 0 (fun i => .iface 24 (.float .f64 (z i)))) :
    Calls Uaig.prog 25 #[.slice (some ⟨c, 0, none⟩) 1 1] w fun e w' => e = .returned (.tuple #[.nilIface, .nilIface]) ∧ Below w.heap.size w w' := by
  have ht := toArrayNum_any b 0 z w (by omega) hr
  go_enter Uaig.func25, Uaig.ntmps25
  go_wp2_with (go_at_call 29; refine ht.mono ?_; rintro e w' ⟨rfl, hb, hr'⟩)
  go_ret2
  exact ⟨rfl, hb⟩

set_option maxHeartbeats 400000 in
theorem jpfMax_one (b c : Nat) (z : Nat → Nat) (w : World) (hc : w.cell? ⟨c, 0, none⟩ = some (.iface 42 (.slice (some ⟨b, 0, none⟩) 1 1)))
    (hr : w.rowIs b 20 1 (fun i => .iface 24 (.float .f64 (z i)))) :
    Calls Uaig.prog 25 #[.slice (some ⟨c, 0, none⟩) 1 1] w fun e w' => e = .returned (.tuple #[.iface 24 (.float .f64 (z 0)), .nilIface]) ∧ Below w.heap.size w w' := by
  have ht := toArrayNum_any b 1 z w (by omega) hr
  go_enter Uaig.func25, Uaig.ntmps25
  go_wp2_with (go_at_call 29; refine ht.mono ?_; rintro e w' ⟨rfl, hb, hr'⟩; have h0 := hr'.cell (i := 0) (by omega))
  go_ret2
  exact ⟨rfl, hb⟩

set_option maxHeartbeats 400000 in
theorem jpfMax_many (b c n : Nat) (z : Nat → Nat) (w : World) (hlen : n ≤ 65536) (h2 : 2 ≤ n) (hc : w.cell? ⟨c, 0, none⟩ = some (.iface 42 (.slice (some ⟨b, 0, none⟩) n n)))
    (hr : w.rowIs b 20 n (fun i => .iface 24 (.float .f64 (z i)))) :
    Calls Uaig.prog 25 #[.slice (some ⟨c, 0, none⟩) 1 1] w fun e w' => e = .returned (.tuple #[.iface 24 (.float .f64 (best z (n - 1))), .nilIface]) ∧ Below w.heap.size w w' := by
  have ht := toArrayNum_any b n z w hlen hr
  have e0 : ((n : Int) == 0) = false := by simp; omega
  have e1 : ((n : Int) == 1) = false := by simp; omega
  go_enter Uaig.func25, Uaig.ntmps25
  go_wp2_with (go_at_call 29; refine ht.mono ?_; rintro e w' ⟨rfl, hb, hr'⟩; have h0 := hr'.cell (i := 0) (by omega))
  go_loop [6, 38] (fun v i => ∃ k : Nat, k ≤ n - 1 ∧ i = .int .i64 k ∧ v = .float .f64 (best z k)) (fun _ i => n - 1 - (intOf i).toNat)
  case atStart => exact ⟨0, Nat.zero_le _, rfl, rfl⟩
  case round =>
    obtain ⟨k, hk, rfl, rfl⟩ := hrel
    by_cases hlt : k < n - 1
    · have h1 : w'.cell? ⟨w.heap.size, 1 + k, none⟩ = some (.float .f64 (z (1 + k))) := hr'.cell (by omega)
      go_wp2
      · have hg : (FloatKind.f64.format.order (z (1 + k)) (best z k) == some .gt) = true := by assumption
        go_round
        case rel => exact ⟨k + 1, by omega, by go_num, by rw [best_yes z k hg]⟩
        case measure => simp [intOf]; omega
      · have hg : (FloatKind.f64.format.order (z (1 + k)) (best z k) == some .gt) = false := by assumption
        go_round
        case rel => exact ⟨k + 1, by omega, by go_num, by rw [best_no z k hg]⟩
        case measure => simp [intOf]; omega
    · have hk' : k = n - 1 := by omega
      go_wp2
      go_ret2
      subst hk'
      exact ⟨rfl, hb⟩

/-- jpfMax over a non-empty list of numbers. -/
theorem jpfMax_some (b c n : Nat) (z : Nat → Nat) (w : World) (hlen : n ≤ 65536) (h1 : 1 ≤ n) (hc : w.cell? ⟨c, 0, none⟩ = some (.iface 42 (.slice (some ⟨b, 0, none⟩) n n)))
    (hr : w.rowIs b 20 n (fun i => .iface 24 (.float .f64 (z i)))) :
    Calls Uaig.prog 25 #[.slice (some ⟨c, 0, none⟩) 1 1] w fun e w' => e = .returned (.tuple #[.iface 24 (.float .f64 (best z (n - 1))), .nilIface]) ∧ Below w.heap.size w w' := by
  by_cases h : n = 1
  · subst h; exact jpfMax_one b c z w hc hr
  · exact jpfMax_many b c n z w hlen (by omega) hc hr

theorem Filling.alloc {w wr : World} {t : TypeId} {n : Nat} {f : Nat → Value} {z : Value} {k : Nat} (h : Filling w wr t n f z k) (o : Obj) : Filling w (wr.alloc o) t n f z k :=
  ⟨h.below.alloc (Nat.le_of_lt h.row.lt) o, h.row.alloc o⟩

set_option maxHeartbeats 400000 in
theorem maxNum_any (b n : Nat) (z : Nat → Nat) (w : World) (hlen : n ≤ 65536) (h1 : 1 ≤ n) (hr : w.rowIs b 24 n (fun i => .float .f64 (z i))) :
    Calls Uaig.prog 17 #[.slice (some ⟨b, 0, none⟩) n n] w fun e w' => e = .returned (.tuple #[.float .f64 (best z (n - 1)), .bool true]) ∧ Below w.heap.size w w' := by
  have hmk := run_make_row' (P := Uaig.prog) 42 20 .nilIface 16 Uaig.underlying42 info20 rfl .i64 .i64 n (by omega) (by omega)
  have hblt := hr.lt
  go_enter Uaig.func17, Uaig.ntmps17
  go_wp2
  go_loopw [15] (fun i wr => ∃ k : Nat, k ≤ n ∧ i = .int .i64 k ∧ Filling w wr 20 n (fun i => .iface 24 (.float .f64 (z i))) .nilIface k) (fun i _ => n - (intOf i).toNat)
  case atStart => exact ⟨0, Nat.zero_le _, rfl, Filling.start ..⟩
  case round =>
    obtain ⟨k, hk, rfl, hF⟩ := hrel
    by_cases hlt : k < n
    · have h1 : wr.cell? ⟨b, k, none⟩ = some (.float .f64 (z k)) := (hF.below.cell (by exact hblt)).trans (hr.cell hlt)
      have h2 := hF.row.cell hlt
      have h3 := hF.row.frozen k
      go_wp2
      go_roundw
      case rel => exact ⟨k + 1, by omega, by go_num, hF.step⟩
      case measure => simp [intOf]; omega
    · have hk' : k = n := by omega
      subst hk'
      have hF' := hF.alloc (.cells #[.iface 42 (.slice (some ⟨w.heap.size, 0, none⟩) k k)] 20)
      have hm := jpfMax_some w.heap.size wr.heap.size k z (wr.alloc (.cells #[.iface 42 (.slice (some ⟨w.heap.size, 0, none⟩) k k)] 20)) hlen h1 (by simp) (filled_all hF'.row)
      go_wp2_with (go_at_call 25; refine hm.mono ?_; rintro e w' ⟨rfl, hb⟩)
      go_ret2
      exact ⟨rfl, hF'.below.trans (hb.mono (hF'.below.size))⟩

set_option maxHeartbeats 400000 in
theorem maxNum_empty (ao : Option Addr) (c : Nat) (w : World) :
    Calls Uaig.prog 17 #[.slice ao 0 c] w fun e w' => e = .returned (.tuple #[.float .f64 0, .bool false]) ∧ Below w.heap.size w w' := by
  have hmk : ∀ w : World, (Instr.makeSlice 42 (.int .i64 0) (.int .i64 0)).run Uaig.prog w = .ok (.slice (some ⟨w.heap.size, 0, none⟩) 0 0) (w.alloc (.cells (madeCells #[.nilIface] 0) 20)) :=
    run_make_row' (P := Uaig.prog) 42 20 .nilIface 16 Uaig.underlying42 info20 rfl .i64 .i64 0 (by omega) (by omega)
  go_enter Uaig.func17, Uaig.ntmps17
  go_wp2
  go_loopw [15] (fun i wr => i = .int .i64 0 ∧ Filling w wr 20 0 (fun _ => .iface 24 (.float .f64 0)) .nilIface 0) (fun _ _ => 0)
  case atStart => exact ⟨rfl, Filling.start ..⟩
  case round =>
    obtain ⟨rfl, hF⟩ := hrel
    have hF' := hF.alloc (.cells #[.iface 42 (.slice (some ⟨w.heap.size, 0, none⟩) 0 0)] 20)
    have hm := jpfMax_empty w.heap.size wr.heap.size (fun _ => 0) (wr.alloc (.cells #[.iface 42 (.slice (some ⟨w.heap.size, 0, none⟩) 0 0)] 20)) (by simp) (filled_all hF'.row)
    go_wp2_with (go_at_call 25; refine hm.mono ?_; rintro e w' ⟨rfl, hb⟩)
    go_ret2
    exact ⟨rfl, hF'.below.trans (hb.mono (hF'.below.size))⟩
end Go.Proofs.Youaiw
