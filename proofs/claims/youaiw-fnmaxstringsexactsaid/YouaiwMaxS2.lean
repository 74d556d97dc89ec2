import Derived.Test.YouaiwMaxS
namespace Go.Proofs.Youaiw
open Go.RowKit
set_option linter.unusedVariables false

attribute [local go_sem] as42ok as9ok as9nil

set_option maxHeartbeats 400000 in
theorem strLess_short (a b : ByteArray) (w : World) (ha : a.size ≤ maxLen) (hb : b.size ≤ maxLen) (hba : b.size < a.size) :
    Calls Uaig.prog 21 #[.string a, .string b] w fun e w' => ∃ n, e = .returned (.bool (Op.bytesLess a.data.toList b.data.toList)) ∧ w' = w.drewN n := by
  unfold maxLen at ha hb
  go_enter Uaig.func21, Uaig.ntmps21
  go_wp2
  go_loopw [6] (fun i wr => ∃ k n : Nat, k ≤ b.size ∧ i = .int .i64 k ∧ wr = w.drewN n ∧ Hid (Same a b k)) (fun i _ => b.size - (intOf i).toNat)
  case atStart => exact ⟨0, 0, Nat.zero_le _, rfl, rfl, same_zero a b⟩
  case round =>
    obtain ⟨k, n, hk, rfl, rfl, hS⟩ := hrel
    by_cases hlt : k < b.size
    · have hka : k < a.size := by omega
      have hkb : k < b.size := by omega
      go_wp2
      go_quiet (fail)
      go_wp2
      · have hne : ((a[k].toNat : Int) != (b[k].toNat : Int)) = true := by assumption
        have HP : Hid (Op.bytesLess a.data.toList b.data.toList = decide (a[k].toNat < b[k].toNat)) := same_part hka hkb hS.out hne
        go_quiet (fail)
        go_wp2
        go_ret
        exact ⟨_, by rw [HP.out]; rfl, by rw [World.drewN_drewN, World.drewN_drewN]⟩
      · have heq : ((a[k].toNat : Int) != (b[k].toNat : Int)) = false := by assumption
        go_roundw
        case rel => exact ⟨k + 1, _, by omega, by go_num, rfl, same_step hka hkb hS.out heq⟩
        case measure => simp [intOf]; omega
    · have HE : Hid (Op.bytesLess a.data.toList b.data.toList = decide (a.size < b.size)) := same_end (by omega) hS.out
      go_wp2
      go_ret
      exact ⟨_, by rw [HE.out]; rfl, rfl⟩

set_option maxHeartbeats 400000 in
theorem strLess_long (a b : ByteArray) (w : World) (ha : a.size ≤ maxLen) (hb : b.size ≤ maxLen) (hba : ¬ b.size < a.size) :
    Calls Uaig.prog 21 #[.string a, .string b] w fun e w' => ∃ n, e = .returned (.bool (Op.bytesLess a.data.toList b.data.toList)) ∧ w' = w.drewN n := by
  unfold maxLen at ha hb
  go_enter Uaig.func21, Uaig.ntmps21
  go_wp2
  go_loopw [6] (fun i wr => ∃ k n : Nat, k ≤ a.size ∧ i = .int .i64 k ∧ wr = w.drewN n ∧ Hid (Same a b k)) (fun i _ => a.size - (intOf i).toNat)
  case atStart => exact ⟨0, 0, Nat.zero_le _, rfl, rfl, same_zero a b⟩
  case round =>
    obtain ⟨k, n, hk, rfl, rfl, hS⟩ := hrel
    by_cases hlt : k < a.size
    · have hka : k < a.size := by omega
      have hkb : k < b.size := by omega
      go_wp2
      go_quiet (fail)
      go_wp2
      · have hne : ((a[k].toNat : Int) != (b[k].toNat : Int)) = true := by assumption
        have HP : Hid (Op.bytesLess a.data.toList b.data.toList = decide (a[k].toNat < b[k].toNat)) := same_part hka hkb hS.out hne
        go_quiet (fail)
        go_wp2
        go_ret
        exact ⟨_, by rw [HP.out]; rfl, by rw [World.drewN_drewN, World.drewN_drewN]⟩
      · have heq : ((a[k].toNat : Int) != (b[k].toNat : Int)) = false := by assumption
        go_roundw
        case rel => exact ⟨k + 1, _, by omega, by go_num, rfl, same_step hka hkb hS.out heq⟩
        case measure => simp [intOf]; omega
    · have HE : Hid (Op.bytesLess a.data.toList b.data.toList = decide (a.size < b.size)) := same_end (by omega) hS.out
      go_wp2
      go_ret
      exact ⟨_, by rw [HE.out]; rfl, rfl⟩


theorem strLess_any (a b : ByteArray) (w : World) (ha : a.size ≤ maxLen) (hb : b.size ≤ maxLen) :
    Calls Uaig.prog 21 #[.string a, .string b] w fun e w' => ∃ n, e = .returned (.bool (Op.bytesLess a.data.toList b.data.toList)) ∧ w' = w.drewN n := by
  by_cases h : b.size < a.size
  · exact strLess_short a b w ha hb h
  · exact strLess_long a b w ha hb h

set_option maxHeartbeats 400000 in
theorem jpfMaxS_one (b c : Nat) (s : Nat → ByteArray) (w : World) (hc : w.cell? ⟨c, 0, none⟩ = some (.iface 42 (.slice (some ⟨b, 0, none⟩) 1 1)))
    (hr : w.rowIs b 20 1 (fun i => .iface 9 (.string (s i)))) :
    Calls Uaig.prog 25 #[.slice (some ⟨c, 0, none⟩) 1 1] w fun e w' => e = .returned (.tuple #[.iface 9 (.string (s 0)), .nilIface]) ∧ Below w.heap.size w w' := by
  have hn := toArrayNum_strs b 1 s w (by omega) (by omega) hr
  have hcl := lt_of_cell hc
  have hbl := hr.lt
  go_enter Uaig.func25, Uaig.ntmps25
  go_wp2_with (first | (go_at_call 29; refine hn.mono ?_; rintro e w1 ⟨rfl, hb1⟩; have hc1 := (hb1.cell (p := ⟨c, 0, none⟩) hcl).trans hc) | (go_at_call 30; refine (toArrayStr_any b 1 s w1 (by omega) (hr.of_block (hb1.block b hbl))).mono ?_; rintro e w2 ⟨rfl, hb2, hr2⟩; have h0 := hr2.cell (i := 0) (by omega)))
  go_ret2
  exact ⟨rfl, hb1.trans (hb2.mono hb1.size)⟩

set_option maxHeartbeats 400000 in
theorem jpfMaxS_many (b c n : Nat) (s : Nat → ByteArray) (w : World) (hlen : n ≤ 131072) (h2 : 2 ≤ n) (hc : w.cell? ⟨c, 0, none⟩ = some (.iface 42 (.slice (some ⟨b, 0, none⟩) n n)))
    (hr : w.rowIs b 20 n (fun i => .iface 9 (.string (s i)))) :
    Calls Uaig.prog 25 #[.slice (some ⟨c, 0, none⟩) 1 1] w fun e w' => e = .returned (.tuple #[.iface 9 (.string (bestS s (n - 1))), .nilIface]) ∧ Below w.heap.size w w' := by
  have hn := toArrayNum_strs b n s w hlen (by omega) hr
  have hcl := lt_of_cell hc
  have hbl := hr.lt
  have e0 : ((n : Int) == 0) = false := by simp; omega
  have e1 : ((n : Int) == 1) = false := by simp; omega
  go_enter Uaig.func25, Uaig.ntmps25
  go_wp2_with (first | (go_at_call 29; refine hn.mono ?_; rintro e w1 ⟨rfl, hb1⟩; have hc1 := (hb1.cell (p := ⟨c, 0, none⟩) hcl).trans hc) | (go_at_call 30; refine (toArrayStr_any b n s w1 hlen (hr.of_block (hb1.block b hbl))).mono ?_; rintro e w2 ⟨rfl, hb2, hr2⟩; have h0 := hr2.cell (i := 0) (by omega)))
  go_loop [11, 72] (fun v i => ∃ k : Nat, k ≤ n - 1 ∧ i = .int .i64 k ∧ v = .string (bestS s k)) (fun _ i => n - 1 - (intOf i).toNat)
  case atStart => exact ⟨0, Nat.zero_le _, rfl, rfl⟩
  case round =>
    obtain ⟨k, hk, rfl, rfl⟩ := hrel
    by_cases hlt : k < n - 1
    · have h1 : w2.cell? ⟨w1.heap.size, 1 + k, none⟩ = some (.string (s (1 + k))) := hr2.cell (by omega)
      cases hg : gtr (s (1 + k)) (bestS s k) with
      | true =>
        have hg' : (!(Op.bytesLess (s (1 + k)).toList (bestS s k).toList || (s (1 + k)).toList == (bestS s k).toList)) = true := hg
        have HB : Hid (bestS s (k + 1) = s (1 + k)) := bestS_yes s k hg
        clear hg
        go_wp2
        go_round
        case rel => exact ⟨k + 1, by omega, by go_num, by rw [HB.out]⟩
        case measure => simp [intOf]; omega
      | false =>
        have hg' : (!(Op.bytesLess (s (1 + k)).toList (bestS s k).toList || (s (1 + k)).toList == (bestS s k).toList)) = false := hg
        have HB : Hid (bestS s (k + 1) = bestS s k) := bestS_no s k hg
        clear hg
        go_wp2
        go_round
        case rel => exact ⟨k + 1, by omega, by go_num, by rw [HB.out]⟩
        case measure => simp [intOf]; omega
    · have hk' : k = n - 1 := by omega
      go_wp2
      go_ret2
      subst hk'
      exact ⟨rfl, hb1.trans (hb2.mono hb1.size)⟩

theorem jpfMaxS_some (b c n : Nat) (s : Nat → ByteArray) (w : World) (hlen : n ≤ 131072) (h1 : 1 ≤ n) (hc : w.cell? ⟨c, 0, none⟩ = some (.iface 42 (.slice (some ⟨b, 0, none⟩) n n)))
    (hr : w.rowIs b 20 n (fun i => .iface 9 (.string (s i)))) :
    Calls Uaig.prog 25 #[.slice (some ⟨c, 0, none⟩) 1 1] w fun e w' => e = .returned (.tuple #[.iface 9 (.string (bestS s (n - 1))), .nilIface]) ∧ Below w.heap.size w w' := by
  by_cases h : n = 1
  · subst h; exact jpfMaxS_one b c s w hc hr
  · exact jpfMaxS_many b c n s w hlen (by omega) hc hr

set_option maxHeartbeats 400000 in
theorem maxStr_any (b n : Nat) (s : Nat → ByteArray) (w : World) (hlen : n ≤ 131072) (h1 : 1 ≤ n) (hr : w.rowIs b 9 n (fun i => .string (s i))) :
    Calls Uaig.prog 20 #[.slice (some ⟨b, 0, none⟩) n n] w fun e w' => e = .returned (.tuple #[.string (bestS s (n - 1)), .bool true]) ∧ Below w.heap.size w w' := by
  have hmk := run_make_row' (P := Uaig.prog) 42 20 .nilIface 16 Uaig.underlying42 info20 rfl .i64 .i64 n (by omega) (by omega)
  have hblt := hr.lt
  go_enter Uaig.func20, Uaig.ntmps20
  go_wp2
  go_loopw [15] (fun i wr => ∃ k : Nat, k ≤ n ∧ i = .int .i64 k ∧ Filling w wr 20 n (fun i => .iface 9 (.string (s i))) .nilIface k) (fun i _ => n - (intOf i).toNat)
  case atStart => exact ⟨0, Nat.zero_le _, rfl, Filling.start ..⟩
  case round =>
    obtain ⟨k, hk, rfl, hF⟩ := hrel
    by_cases hlt : k < n
    · have h1 : wr.cell? ⟨b, k, none⟩ = some (.string (s k)) := (hF.below.cell (by exact hblt)).trans (hr.cell hlt)
      have h2 := hF.row.cell hlt
      have h3 := hF.row.frozen k
      go_wp2
      go_roundw
      case rel => exact ⟨k + 1, by omega, by go_num, hF.step⟩
      case measure => simp [intOf]; omega
    · have hk' : k = n := by omega
      subst hk'
      have hF' := hF.alloc (.cells #[.iface 42 (.slice (some ⟨w.heap.size, 0, none⟩) k k)] 20)
      have hm := jpfMaxS_some w.heap.size wr.heap.size k s (wr.alloc (.cells #[.iface 42 (.slice (some ⟨w.heap.size, 0, none⟩) k k)] 20)) hlen h1 (by simp) (filled_all hF'.row)
      go_wp2_with (go_at_call 25; refine hm.mono ?_; rintro e w' ⟨rfl, hb⟩)
      go_ret2
      exact ⟨rfl, hF'.below.trans (hb.mono (hF'.below.size))⟩

set_option maxHeartbeats 400000 in
theorem maxStr_empty (ao : Option Addr) (c : Nat) (w : World) :
    Calls Uaig.prog 20 #[.slice ao 0 c] w fun e w' => e = .returned (.tuple #[.string ⟨#[]⟩, .bool false]) ∧ Below w.heap.size w w' := by
  have hmk : ∀ w : World, (Instr.makeSlice 42 (.int .i64 0) (.int .i64 0)).run Uaig.prog w = .ok (.slice (some ⟨w.heap.size, 0, none⟩) 0 0) (w.alloc (.cells (madeCells #[.nilIface] 0) 20)) :=
    run_make_row' (P := Uaig.prog) 42 20 .nilIface 16 Uaig.underlying42 info20 rfl .i64 .i64 0 (by omega) (by omega)
  go_enter Uaig.func20, Uaig.ntmps20
  go_wp2
  go_loopw [15] (fun i wr => i = .int .i64 0 ∧ Filling w wr 20 0 (fun _ => .iface 24 (.float .f64 0)) .nilIface 0) (fun _ _ => 0)
  case atStart => exact ⟨rfl, Filling.start ..⟩
  case round =>
    obtain ⟨rfl, hF⟩ := hrel
    have hF' := hF.alloc (.cells #[.iface 42 (.slice (some ⟨w.heap.size, 0, none⟩) 0 0)] 20)
    have hm := jpfMax_empty w.heap.size wr.heap.size (fun _ => 0) (wr.alloc (.cells #[.iface 42 (.slice (some ⟨w.heap.size, 0, none⟩) 0 0)] 20)) (by simp) (filled_all hF'.row)
    go_wp2_with (go_at_call 25; refine hm.mono ?_; rintro e w' ⟨rfl, hb⟩)
    go_ret2
    exact ⟨rfl, hF'.below.trans (hb.mono (hF'.below.size))⟩
end Go.Proofs.Youaiw
