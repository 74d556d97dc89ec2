import Derived.Test.YouaiwEnds
import Derived.Test.YouaiwPlainA
import Derived.Deep.QuietTactic
import Derived.BigQuiet
import Derived.LoopTactic
namespace Go.Proofs.Youaiw
open Go.RowKit

set_option maxHeartbeats 400000 in
theorem zzBytes9_yes (s p : ByteArray) (w : World) (h : s.size + p.size ≤ 1048576) :
    Calls Uaig.prog 9 #[.string s, .string p] w fun e w' => e = .returned (.bool true) ∧ w = w' := by
  go_enter Uaig.func9, Uaig.ntmps9
  go_wp2
  go_ret
  exact ⟨rfl, rfl⟩

set_option maxHeartbeats 400000 in
theorem zzBytes9_no (s p : ByteArray) (w : World) (hs : s.size ≤ maxLen) (hp : p.size ≤ maxLen) (h : ¬ s.size + p.size ≤ 1048576) :
    Calls Uaig.prog 9 #[.string s, .string p] w fun e w' => e = .returned (.bool false) ∧ w = w' := by
  unfold maxLen at hs hp
  by_cases h1 : s.size ≤ 1048576
  · by_cases h2 : p.size ≤ 1048576
    all_goals
      go_enter Uaig.func9, Uaig.ntmps9
      go_wp2
      go_ret
      exact ⟨rfl, rfl⟩
  · go_enter Uaig.func9, Uaig.ntmps9
    go_wp2
    go_ret
    exact ⟨rfl, rfl⟩

set_option maxHeartbeats 400000 in
theorem ends_big (s p : ByteArray) (hs : s.size ≤ maxLen) (hp : p.size ≤ maxLen) (h : ¬ s.size + p.size ≤ 1048576) (w : World) :
    Calls Uaig.prog 3 #[.string s, .string p] w fun e w' => e = .returned (.bool true) ∧ Grown w w' := by
  have hc := zzBytes9_no s p w hs hp h
  go_enter Uaig.func3, Uaig.ntmps3
  go_wp2_with (go_at_call 9; refine hc.mono ?_; rintro e w' ⟨rfl, rfl⟩)
  go_ret
  exact ⟨rfl, Grown.refl _⟩

theorem grown_arg (w : World) (s p : ByteArray) (n : Nat) : Grown w ((w.alloc (argBlock s p)).drewN n) := (Grown.refl w).alloc _ _

theorem ret_bool {a b : Bool} (h : a = b) : Ending.returned (.bool a) = .returned (.bool b) := by rw [h]

theorem eql_bool_run (a b : Bool) (w : World) : (binOp .eql 4 (.bool a) (.bool b)).run Uaig.prog w = .ok (.bool (a == b)) w := by kernel_rfl

attribute [local go_sem] eql_bool_run

set_option maxHeartbeats 400000 in
theorem ends_walk (s p : ByteArray) (h : s.size + p.size ≤ 1048576) (hle : p.size ≤ s.size) (w : World) :
    Calls Uaig.prog 3 #[.string s, .string p] w fun e w' => e = .returned (.bool true) ∧ Grown w w' := by
  have hc := zzBytes9_yes s p w h
  have he := endsWith_any s p w (by omega)
  have h1 : ¬ (1048576 : Int) < (s.size : Int) := by omega
  have h2 : ¬ (1048576 : Int) < (p.size : Int) := by omega
  have h3 : ¬ (1048576 : Int) < (s.size : Int) + (p.size : Int) := by omega
  go_enter Uaig.func3, Uaig.ntmps3
  go_wp2_with (first | (go_at_call 9; refine hc.mono ?_; rintro e w' ⟨rfl, rfl⟩) | (go_at_call 10; refine he.mono ?_; rintro e w' ⟨rfl, rfl⟩))
  go_loopw [6, 8] (fun b i wr => ∃ k n : Nat, k ≤ p.size ∧ i = .int .i64 k ∧ b = .bool true ∧ wr = (w.alloc (argBlock s p)).drewN n ∧ Hid (∀ j, j < k → s.data.toList[s.size - p.size + j]? = p.data.toList[j]?)) (fun _ i _ => p.size - (intOf i).toNat)
  case atStart => exact ⟨0, 0, Nat.zero_le _, rfl, rfl, rfl, fun j hj => absurd hj (Nat.not_lt_zero j)⟩
  case round =>
    obtain ⟨k, n, hk, rfl, rfl, rfl, hm⟩ := hrel
    by_cases hlt : k < p.size
    · have hi1 : (0 : Int) ≤ (s.size : Int) - (p.size : Int) + (k : Int) := by omega
      have hi2 : (s.size : Int) - (p.size : Int) + (k : Int) < (s.size : Int) := by omega
      go_wp2
      go_quiet (fail)
      go_wp2
      · have hne : ((s[s.size - p.size + k].toNat : Int) != (p[k].toNat : Int)) = true := by assumption
        have hf := suffix_false s p k hlt (by omega) hne
        go_ret
        exact ⟨ret_bool (by simp [hf]), grown_arg w s p _⟩
      · have heq : ((s[s.size - p.size + k].toNat : Int) != (p[k].toNat : Int)) = false := by assumption
        go_roundw
        case rel => exact ⟨k + 1, _, by omega, by go_num, rfl, rfl, match_step s p k hlt (by omega) hm.out heq⟩
        case measure => simp [intOf]; omega
    · have HT : Hid (Lib.hasSuffix s.data.toList p.data.toList = true) := suffix_true s p hle (fun j hj => hm.out j (by omega))
      go_wp2
      go_ret
      exact ⟨ret_bool (by simp [HT.out]), grown_arg w s p _⟩

set_option maxHeartbeats 400000 in
theorem ends_long (s p : ByteArray) (h : s.size + p.size ≤ 1048576) (hle : s.size < p.size) (w : World) :
    Calls Uaig.prog 3 #[.string s, .string p] w fun e w' => e = .returned (.bool true) ∧ Grown w w' := by
  have hc := zzBytes9_yes s p w h
  have he := endsWith_any s p w (by omega)
  rw [suffix_long s p hle] at he
  have h1 : ¬ (1048576 : Int) < (s.size : Int) := by omega
  have h2 : ¬ (1048576 : Int) < (p.size : Int) := by omega
  have h3 : ¬ (1048576 : Int) < (s.size : Int) + (p.size : Int) := by omega
  go_enter Uaig.func3, Uaig.ntmps3
  go_wp2_with (first | (go_at_call 9; refine hc.mono ?_; rintro e w' ⟨rfl, rfl⟩) | (go_at_call 10; refine he.mono ?_; rintro e w' ⟨rfl, rfl⟩))
  go_ret
  exact ⟨rfl, grown_arg w s p 0⟩
end Go.Proofs.Youaiw
