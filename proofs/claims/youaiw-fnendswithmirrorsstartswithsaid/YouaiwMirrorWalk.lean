import Derived.Test.YouaiwEnds
import Derived.Test.YouaiwRev
namespace Go.Proofs.Youaiw
open Go.RowKit

set_option maxHeartbeats 400000 in
theorem zzBytes11_yes (s p : ByteArray) (w : World) (h : s.size + p.size ≤ 1048576) :
    Calls Uaig.prog 11 #[.string s, .string p] w fun e w' => e = .returned (.bool true) ∧ w = w' := by
  go_enter Uaig.func11, Uaig.ntmps11
  go_wp2
  go_ret
  exact ⟨rfl, rfl⟩

set_option maxHeartbeats 400000 in
theorem zzBytes11_no (s p : ByteArray) (w : World) (hs : s.size ≤ maxLen) (hp : p.size ≤ maxLen) (h : ¬ s.size + p.size ≤ 1048576) :
    Calls Uaig.prog 11 #[.string s, .string p] w fun e w' => e = .returned (.bool false) ∧ w = w' := by
  unfold maxLen at hs hp
  by_cases h1 : s.size ≤ 1048576
  · by_cases h2 : p.size ≤ 1048576
    all_goals
      go_enter Uaig.func11, Uaig.ntmps11
      go_wp2
      go_ret
      exact ⟨rfl, rfl⟩
  · go_enter Uaig.func11, Uaig.ntmps11
    go_wp2
    go_ret
    exact ⟨rfl, rfl⟩

theorem neq_bool4 (a b : Bool) (w : World) : (binOp .neq 4 (.bool a) (.bool b)).run Uaig.prog w = .ok (.bool (a != b)) w := by kernel_rfl

attribute [local go_sem] neq_bool4

/-! The plain law. -/
theorem mirror (s p : ByteArray) : Lib.hasPrefix (rev s).data.toList (rev p).data.toList = Lib.hasSuffix s.data.toList p.data.toList := by
  rw [rev_toList, rev_toList]
  rfl

theorem suffix_append (s p : ByteArray) : Lib.hasSuffix (s ++ p).data.toList p.data.toList = true := by
  unfold Lib.hasSuffix
  rw [List.isSuffixOf_iff_suffix]
  have e : (s ++ p).data.toList = s.data.toList ++ p.data.toList := by simp
  rw [e]
  exact List.suffix_append _ _

set_option maxHeartbeats 400000 in
theorem mirror_big (s p : ByteArray) (hs : s.size ≤ maxLen) (hp : p.size ≤ maxLen) (h : ¬ s.size + p.size ≤ 1048576) (w : World) :
    Calls Uaig.prog 4 #[.string s, .string p] w fun e w' => e = .returned (.bool true) ∧ Below w.heap.size w w' := by
  have hc := zzBytes11_no s p w hs hp h
  go_enter Uaig.func4, Uaig.ntmps4
  go_wp2_with (go_at_call 11; refine hc.mono ?_; rintro e w' ⟨rfl, rfl⟩)
  go_ret
  exact ⟨rfl, Below.refl _ _⟩

set_option maxHeartbeats 400000 in
theorem mirror_walk (s p : ByteArray) (h : s.size + p.size ≤ 1048576) (w : World) :
    Calls Uaig.prog 4 #[.string s, .string p] w fun e w' => e = .returned (.bool true) ∧ Below w.heap.size w w' := by
  have hc := zzBytes11_yes s p w h
  have he := endsWith_any s p w (by omega)
  have hr1 := revBytes_any s (w.alloc (argBlock s p)) (by omega)
  have h1 : ¬ (1048576 : Int) < (s.size : Int) := by omega
  have h2 : ¬ (1048576 : Int) < (p.size : Int) := by omega
  have h3 : ¬ (1048576 : Int) < (s.size : Int) + (p.size : Int) := by omega
  go_enter Uaig.func4, Uaig.ntmps4
  go_wp2_with (go_at_call 11; refine hc.mono ?_; rintro e w' ⟨rfl, rfl⟩)
  refine he.mono ?_
  rintro e w' ⟨rfl, rfl⟩
  go_wp2_with fail
  refine hr1.mono ?_
  rintro e w1 ⟨rfl, hb1⟩
  go_wp2_with fail
  refine (revBytes_any p w1 (by omega)).mono ?_
  rintro e w2 ⟨rfl, hb2⟩
  go_wp2_with fail
  have hst := startsWith_any (rev s) (rev p) w2
  rw [mirror] at hst
  refine hst.mono ?_
  rintro e w3 ⟨rfl, rfl⟩
  clear hst
  go_wp2_with fail
  have hen := fun wx => endsWith_any (s ++ p) p wx (by rw [ByteArray.size_append]; omega)
  simp only [suffix_append] at hen
  refine (hen _).mono ?_
  rintro e w4 ⟨rfl, rfl⟩
  clear hen
  go_wp2_with fail
  go_ret
  refine ⟨rfl, ?_⟩
  have b0 : Below w.heap.size w (w.alloc (argBlock s p)) := (Below.refl _ _).alloc (Nat.le_refl _) _
  have b1 := b0.trans (hb1.mono b0.size)
  have b2 := b1.trans (hb2.mono b1.size)
  have b3 := b2.alloc b2.size (argBlock (rev s) (rev p))
  exact b3.alloc b3.size _
end Go.Proofs.Youaiw
