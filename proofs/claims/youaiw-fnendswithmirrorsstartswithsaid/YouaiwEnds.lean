import Derived.Test.YouaiwRows
import Derived.WalkKit
import Derived.WalkLawsBesides
import Derived.Lib.Strings
import Derived.Lib.Walk
namespace Go.Proofs.Youaiw
open Go.RowKit

/-! Type assertions on the values that the shims lay into interfaces. -/
theorem as9 (v : Value) (w : World) : (Instr.typeAssert (.iface 9 v) 20 9 false).run Uaig.prog w = .ok v w := by kernel_rfl
theorem as4ok (v : Value) (w : World) : (Instr.typeAssert (.iface 4 v) 20 4 true).run Uaig.prog w = .ok (.tuple #[v, .bool true]) w := by kernel_rfl

attribute [local go_sem] as9 as4ok

set_option maxHeartbeats 1000000 in
theorem hasSuffix_any (s p : ByteArray) (w : World) (hs : s.size ≤ 9223372036854775807) :
    Calls Uaig.prog 26 #[.string s, .string p] w fun e w' => e = .returned (.bool (Lib.hasSuffix s.data.toList p.data.toList)) ∧ w' = w := by
  rw [← Lib.hasSuffix_raw]
  have hlo : p.size ≤ s.size → ((s.size : Int) - (p.size : Int) + 9223372036854775808) % 18446744073709551616 - 9223372036854775808 = ((s.size - p.size : Nat) : Int) := fun _ => by omega
  go_enter Uaig.func26, Uaig.ntmps26
  go_wp2
  · have h : p.size ≤ s.size := by assumption
    go_ret
    refine ⟨?_, rfl⟩
    show Ending.returned (Value.bool ((s.extract (s.size - p.size) s.size).toList == p.toList)) = _
    simp [h]
  · have h : ¬ p.size ≤ s.size := by assumption
    go_ret
    refine ⟨?_, rfl⟩
    show Ending.returned (Value.bool false) = _
    simp [h]

set_option maxHeartbeats 1000000 in
theorem hasPrefix_any (s p : ByteArray) (w : World) :
    Calls Uaig.prog 27 #[.string s, .string p] w fun e w' => e = .returned (.bool (Lib.hasPrefix s.data.toList p.data.toList)) ∧ w' = w := by
  rw [← Lib.hasPrefix_raw]
  go_enter Uaig.func27, Uaig.ntmps27
  go_wp2
  · have h : p.size ≤ s.size := by assumption
    go_ret
    refine ⟨?_, rfl⟩
    show Ending.returned (Value.bool ((s.extract 0 p.size).toList == p.toList)) = _
    simp [h]
  · have h : ¬ p.size ≤ s.size := by assumption
    go_ret
    refine ⟨?_, rfl⟩
    show Ending.returned (Value.bool false) = _
    simp [h]

set_option maxHeartbeats 400000 in
theorem jpfEndsWith_any (s p : ByteArray) (b : Nat) (w : World) (hs : s.size ≤ 9223372036854775807)
    (h0 : w.cell? ⟨b, 0, none⟩ = some (.iface 9 (.string s))) (h1 : w.cell? ⟨b, 1, none⟩ = some (.iface 9 (.string p))) :
    Calls Uaig.prog 22 #[.slice (some ⟨b, 0, none⟩) 2 2] w fun e w' => e = .returned (.tuple #[.iface 4 (.bool (Lib.hasSuffix s.data.toList p.data.toList)), .nilIface]) ∧ w' = w := by
  go_enter Uaig.func22, Uaig.ntmps22
  go_wp2_with (go_at_call 26; refine (hasSuffix_any _ _ _ hs).mono ?_; rintro e w' ⟨rfl, rfl⟩)
  go_ret2
  exact ⟨rfl, rfl⟩

set_option maxHeartbeats 400000 in
theorem jpfStartsWith_any (s p : ByteArray) (b : Nat) (w : World)
    (h0 : w.cell? ⟨b, 0, none⟩ = some (.iface 9 (.string s))) (h1 : w.cell? ⟨b, 1, none⟩ = some (.iface 9 (.string p))) :
    Calls Uaig.prog 23 #[.slice (some ⟨b, 0, none⟩) 2 2] w fun e w' => e = .returned (.tuple #[.iface 4 (.bool (Lib.hasPrefix s.data.toList p.data.toList)), .nilIface]) ∧ w' = w := by
  go_enter Uaig.func23, Uaig.ntmps23
  go_wp2_with (go_at_call 27; refine (hasPrefix_any _ _ _).mono ?_; rintro e w' ⟨rfl, rfl⟩)
  go_ret2
  exact ⟨rfl, rfl⟩

/-- The shim's own block: the two arguments as interface values. -/
def argBlock (s p : ByteArray) : Obj := .cells #[.iface 9 (.string s), .iface 9 (.string p)] 20

set_option maxHeartbeats 400000 in
theorem endsWith_any (s p : ByteArray) (w : World) (hs : s.size ≤ 9223372036854775807) :
    Calls Uaig.prog 10 #[.string s, .string p] w fun e w' => e = .returned (.bool (Lib.hasSuffix s.data.toList p.data.toList)) ∧ w' = w.alloc (argBlock s p) := by
  have hc := jpfEndsWith_any s p w.heap.size (w.alloc (.cells #[.iface 9 (.string s), .iface 9 (.string p)] 20)) hs (by simp) (by simp)
  go_enter Uaig.func10, Uaig.ntmps10
  go_wp2_with (go_at_call 22; refine hc.mono ?_; rintro e w' ⟨rfl, rfl⟩)
  go_ret
  exact ⟨rfl, rfl⟩

set_option maxHeartbeats 400000 in
theorem startsWith_any (s p : ByteArray) (w : World) :
    Calls Uaig.prog 12 #[.string s, .string p] w fun e w' => e = .returned (.bool (Lib.hasPrefix s.data.toList p.data.toList)) ∧ w' = w.alloc (argBlock s p) := by
  have hc := jpfStartsWith_any s p w.heap.size (w.alloc (.cells #[.iface 9 (.string s), .iface 9 (.string p)] 20)) (by simp) (by simp)
  go_enter Uaig.func12, Uaig.ntmps12
  go_wp2_with (go_at_call 23; refine hc.mono ?_; rintro e w' ⟨rfl, rfl⟩)
  go_ret
  exact ⟨rfl, rfl⟩
end Go.Proofs.Youaiw
