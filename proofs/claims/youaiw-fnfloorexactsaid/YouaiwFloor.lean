import Derived.Test.YouaiwRows
import Derived.Test.YouaiwFloorNan
import Derived.WalkKit
import Derived.WalkLawsBesides
import Derived.Laws.Externs
namespace Go.Proofs.Youaiw
open Go.RowKit

theorem as24 (v : Value) (w : World) : (Instr.typeAssert (.iface 24 v) 20 24 false).run Uaig.prog w = .ok v w := by kernel_rfl
theorem as24ok' (v : Value) (w : World) : (Instr.typeAssert (.iface 24 v) 20 24 true).run Uaig.prog w = .ok (.tuple #[v, .bool true]) w := by kernel_rfl

attribute [local go_sem] as24 as24ok'

/-- math.archFloor is the model's own entry. -/
theorem arch_run (args : Array Value) (w : World) :
    (callFunc 33 args).run Uaig.prog w = ((Extern.MathFloor.toIntegral "math.archFloor" .down args).run Uaig.prog w).andThen fun v w' => .ok (.value v) w' :=
  run_callFunc_extern Uaig.func33 (by kernel_rfl) (by kernel_rfl) (by kernel_rfl) (by kernel_rfl) args w

/-- What the entry answers, by what the word stands for. -/
theorem arch_at (x : Nat) : ∃ q : Question, Extern.MathFloor.toIntegral "math.archFloor" .down #[.float .f64 x] =
    (match FloatKind.f64.decode x with
    | .nan s t => if FloatKind.f64.format.quiet t = t then pure (.float .f64 x) else choose q >>= fun c => pure (.float .f64 (if c == 1 then x else FloatKind.f64.encode (.nan s (FloatKind.f64.format.quiet t))))
    | d => pure (.float .f64 (FloatKind.f64.encode (d.integral .down)))) := ⟨_, rfl⟩

theorem arch_num (x : Nat) (h : num x) (w : World) : (callFunc 33 #[.float .f64 x]).run Uaig.prog w = .ok (.value (.float .f64 (flo x))) w := by
  obtain ⟨q, hq⟩ := arch_at x
  rw [arch_run, hq]
  have hg := num_good h
  unfold flo
  cases e : Ieee.double.read x with
  | nan s f => rw [e] at hg; exact hg.elim
  | infinity s =>
    have e' : FloatKind.f64.decode x = .infinity s := e
    rw [e']
    rfl
  | number s m i =>
    have e' : FloatKind.f64.decode x = .number s m i := e
    rw [e']
    rfl

theorem arch_nan (x : Nat) (h : ¬ num x) (w : World) : ∃ r w', (callFunc 33 #[.float .f64 x]).run Uaig.prog w = .ok (.value (.float .f64 r)) w' ∧ ¬ num r ∧ ∃ n, w' = w.drewN n := by
  obtain ⟨q, hq⟩ := arch_at x
  rw [arch_run, hq]
  obtain ⟨s, f, e⟩ := not_num h
  have e' : FloatKind.f64.decode x = .nan s f := e
  rw [e']
  by_cases hf : FloatKind.f64.format.quiet f = f
  · refine ⟨x, w, ?_, h, 0, rfl⟩
    simp only [if_pos hf]
    rfl
  · have hc : ∃ c n, Sem.run Uaig.prog (choose q) w = .ok c (w.drewN n) := by
      rw [run_choose_drew]
      split
      · exact ⟨0, 0, rfl⟩
      · exact ⟨_, 1, rfl⟩
    obtain ⟨c, n, hc⟩ := hc
    refine ⟨if c == 1 then x else FloatKind.f64.encode (.nan s (FloatKind.f64.format.quiet f)), w.drewN n, ?_, ?_, n, rfl⟩
    · simp only [if_neg hf, Sem.run_bind, hc]
      rfl
    · split
      · exact h
      · exact quiet_nan s f

set_option maxHeartbeats 400000 in
theorem mathFloor_num (x : Nat) (h : num x) (w : World) :
    Calls Uaig.prog 28 #[.float .f64 x] w fun e w' => e = .returned (.float .f64 (flo x)) ∧ w' = w := by
  have ha := arch_num x h
  clear h
  go_enter Uaig.func28, Uaig.ntmps28
  go_wp2
  go_ret
  exact ⟨rfl, rfl⟩

/-- A NaN (or anything else of which nothing more is asked) in a float. -/
def SomeNan (e : Ending) : Prop := ∃ r, ¬ num r ∧ e = .returned (.float .f64 r)

set_option maxHeartbeats 400000 in
theorem mathFloor_nan (x : Nat) (h : ¬ num x) (w : World) :
    Calls Uaig.prog 28 #[.float .f64 x] w fun e w' => SomeNan e ∧ ∃ n, w' = w.drewN n := by
  obtain ⟨r, w1, ha, hr, n, hn⟩ := arch_nan x h w
  subst hn
  have HR : Hid (¬ num r) := hr
  clear h hr
  go_enter Uaig.func28, Uaig.ntmps28
  go_wp2
  go_ret
  exact ⟨⟨r, HR.out, rfl⟩, n, rfl⟩

set_option maxHeartbeats 400000 in
theorem jpfFloor_num (x b : Nat) (h : num x) (w : World) (hc : w.cell? ⟨b, 0, none⟩ = some (.iface 24 (.float .f64 x))) :
    Calls Uaig.prog 24 #[.slice (some ⟨b, 0, none⟩) 1 1] w fun e w' => e = .returned (.tuple #[.iface 24 (.float .f64 (flo x)), .nilIface]) ∧ w' = w := by
  have hf := mathFloor_num x h w
  clear h
  go_enter Uaig.func24, Uaig.ntmps24
  go_wp2_with (go_at_call 28; refine hf.mono ?_; rintro e w' ⟨rfl, rfl⟩)
  go_ret2
  exact ⟨rfl, rfl⟩

def SomeNan2 (e : Ending) : Prop := ∃ r, ¬ num r ∧ e = .returned (.tuple #[.iface 24 (.float .f64 r), .nilIface])

set_option maxHeartbeats 400000 in
theorem jpfFloor_nan (x b : Nat) (h : ¬ num x) (w : World) (hc : w.cell? ⟨b, 0, none⟩ = some (.iface 24 (.float .f64 x))) :
    Calls Uaig.prog 24 #[.slice (some ⟨b, 0, none⟩) 1 1] w fun e w' => SomeNan2 e ∧ ∃ n, w' = w.drewN n := by
  have hf := mathFloor_nan x h w
  clear h
  go_enter Uaig.func24, Uaig.ntmps24
  go_wp2_with (go_at_call 28; refine hf.mono ?_; rintro e w' ⟨⟨r, hr, rfl⟩, n, rfl⟩; have HR : Hid (¬ num r) := hr; clear hr)
  go_ret2
  exact ⟨⟨r, HR.out, rfl⟩, n, rfl⟩

/-- The shim's own block. -/
def argBlock1 (x : Nat) : Obj := .cells #[.iface 24 (.float .f64 x)] 20

set_option maxHeartbeats 400000 in
theorem floor_num (x : Nat) (h : num x) (w : World) :
    Calls Uaig.prog 14 #[.float .f64 x] w fun e w' => e = .returned (.float .f64 (flo x)) ∧ w' = w.alloc (argBlock1 x) := by
  have hc := jpfFloor_num x w.heap.size h (w.alloc (.cells #[.iface 24 (.float .f64 x)] 20)) (by simp)
  clear h
  go_enter Uaig.func14, Uaig.ntmps14
  go_wp2_with (go_at_call 24; refine hc.mono ?_; rintro e w' ⟨rfl, rfl⟩)
  go_ret
  exact ⟨rfl, rfl⟩

set_option maxHeartbeats 400000 in
theorem floor_nan (x : Nat) (h : ¬ num x) (w : World) :
    Calls Uaig.prog 14 #[.float .f64 x] w fun e w' => SomeNan e ∧ ∃ n, w' = (w.alloc (argBlock1 x)).drewN n := by
  have hc := jpfFloor_nan x w.heap.size h (w.alloc (.cells #[.iface 24 (.float .f64 x)] 20)) (by simp)
  clear h
  go_enter Uaig.func14, Uaig.ntmps14
  go_wp2_with (go_at_call 24; refine hc.mono ?_; rintro e w' ⟨⟨r, hr, rfl⟩, n, rfl⟩; have HR : Hid (¬ num r) := hr; clear hr)
  go_ret
  exact ⟨⟨r, HR.out, rfl⟩, n, rfl⟩
end Go.Proofs.Youaiw
