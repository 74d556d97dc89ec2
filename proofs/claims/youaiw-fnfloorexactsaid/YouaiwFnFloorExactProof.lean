/-
  'Rows.FnFloorExactSaid': the frame is the guide's skeleton at this function's number and types, closed by 'Below' as its frame for slices is; the walk lies in YouaiwFloorExactWalk.
-/
import Derived.Test.YouaiwRows
import Derived.WalkKit
import Derived.ProofKit
import Derived.OpenShut
import Derived.Laws.Cover2
import Derived.ChangeOld
import Derived.Below
import Derived.Test.YouaiwFloorExactWalk
namespace Go.Proofs.Youaiw.fnFloorExact
open Go.ChangeShapes Go.WideShapes Go.ChangeAt Go.RowKit
set_option linter.unusedVariables false      -- a walk need not use every 'w<i>' (that an integer argument fits its kind)

theorem own : ownKnob Uaig.prog.godebug = none := by kernel_rfl

theorem walk (a0 : Nat) (w : World) :
    Calls Uaig.prog 5 #[.float .f64 a0] w fun e w' => e = .returned (.bool true) ∧ Below w.heap.size w w' :=
  exact_any a0 w

/-! ### THE ROW's STEP: WRITTEN OUT: LEAVE IT -/
set_option maxRecDepth 100000 in
theorem lifted (os : Os) (started : os.Started) (H : Type) (enc : TypeId × Value → H) :
    ReturnsInHanded {} Uaig.checked os 5 .any (Rows.fnFloorExactSpec.pre6 enc Uaig.prog Uaig.f5 Rows.fnFloorExactRow.domain false) (Rows.fnFloorExactSpec.post enc Uaig.prog Uaig.f5 false true false false) := by
  refine returnsInHanded_of_change (C := Uaig.checked) own started (by kernel_rfl) Uaig.func5
    (ChangeSpec.witness6 (enc := enc) (C := Uaig.checked) false ⟨#[], #[.float .f64 0], []⟩ 8 (by kernel_rfl) (by kernel_rfl) (by kernel_rfl) (by kernel_rfl)) ?_
  intro W base args ds gs before hval0 hW hcnd _
  have hval : ∀ (j : Nat) t v, Uaig.f5.params[j]? = some t → args[j]? = some v → Value.okWide Uaig.prog W .any base t v := hval0
  have hW' := hW
  obtain ⟨p, q, hA0, hV, rfl, hfz, hnd⟩ := hW
  have hA : DataW.TrodAll enc Uaig.prog W 0 (fun _ => true) true Uaig.f5.params.toList args.toList ds p := hA0
  rw [Uaig.params5] at hA hval
  obtain ⟨v0, vs0, d0, ds0, p0, q0, hargs, rfl, rfl, h0, r0⟩ := trodAll_cons hA
  obtain ⟨rfl, rfl, rfl⟩ := trodAll_nil r0
  obtain rfl : args = #[v0] := by cases args; simp_all
  obtain ⟨rfl, rfl⟩ := trodVars_none hV
  obtain ⟨a0, rfl, rfl, rfl, w0⟩ := open_float Uaig.underlying24 (hval 0 24 v0 rfl rfl) h0
  clear hA0 hval0
  refine (walk a0 W).mono fun e W' ⟨he, bel⟩ => ?_
  subst he
  exact ⟨_, rfl, _, _, _, [], _, [], hW', trodAll_mk1 (shut_bool Uaig.underlying4 _), (trodAll_cons_mk (shut_float Uaig.underlying24 w0) trodAll_mk0), rfl, bel.frame _, fun h => by cases h⟩

theorem over : Rows.fnFloorExactRow.holds Uaig.pinned (OpenSpec.ofChange Rows.fnFloorExactSpec) :=
  OpenClaim.holds_of_wide 5 Uaig.f5 rfl rfl rfl rfl rfl rfl rfl ⟨rfl, rfl, rfl, rfl, rfl⟩ rfl rfl rfl rfl rfl (by kernel_rfl) Uaig.func5 (by kernel_rfl)
    (of_decide_eq_true (by kernel_rfl)) (by unfold Func.isWrapper; first | (rw [if_pos (by decide +kernel)]; kernel_rfl) | (rw [if_neg (by decide +kernel)]; exact ⟨rfl, rfl⟩))
    (fun os started H enc _ => lifted os started H enc)

/-- ████ THE STATEMENT ████ -/
theorem proved : Rows.FnFloorExactSaid :=
  over
end Go.Proofs.Youaiw.fnFloorExact
namespace Go.Proofs.Youaiw
/-- The statement, by one plain name. -/
theorem fnFloorExact_holds : Rows.FnFloorExactSaid := fnFloorExact.proved
end Go.Proofs.Youaiw
