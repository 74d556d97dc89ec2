/-
  'Rows.FnFloorMonotoneIdempotentSaid': the frame is the guide's skeleton at this function's number and types, closed by 'Below' as its frame for slices is; the walk lies in YouaiwFloorMono.
-/
import Derived.Test.YouaiwRows
import Derived.WalkKit
import Derived.ProofKit
import Derived.OpenShut
import Derived.Laws.Cover2
import Derived.ChangeOld
import Derived.Below
import Derived.Test.YouaiwFloorMono
namespace Go.Proofs.Youaiw.fnFloorMonotoneIdempotent
open Go.ChangeShapes Go.WideShapes Go.ChangeAt Go.RowKit
set_option linter.unusedVariables false      -- a walk need not use every 'w<i>' (that an integer argument fits its kind)

theorem own : ownKnob Uaig.prog.godebug = none := by kernel_rfl

theorem walk (a0 a1 : Nat) (w : World) :
    Calls Uaig.prog 6 #[.float .f64 a0, .float .f64 a1] w fun e w' => e = .returned (.bool true) ∧ Below w.heap.size w w' := by
  by_cases hx : num a0
  · by_cases hy : num a1
    · exact mono_walk a0 a1 hx hy w
    · exact mono_nan_y a0 a1 hx hy w
  · exact mono_nan_x a0 a1 hx w

/-! ### THE ROW's STEP: WRITTEN OUT: LEAVE IT -/
set_option maxRecDepth 100000 in
theorem lifted (os : Os) (started : os.Started) (H : Type) (enc : TypeId × Value → H) :
    ReturnsInHanded {} Uaig.checked os 6 .any (Rows.fnFloorMonotoneIdempotentSpec.pre6 enc Uaig.prog Uaig.f6 Rows.fnFloorMonotoneIdempotentRow.domain false) (Rows.fnFloorMonotoneIdempotentSpec.post enc Uaig.prog Uaig.f6 false true false false) := by
  refine returnsInHanded_of_change (C := Uaig.checked) own started (by kernel_rfl) Uaig.func6
    (ChangeSpec.witness6 (enc := enc) (C := Uaig.checked) false ⟨#[], #[.float .f64 0, .float .f64 0], []⟩ 8 (by kernel_rfl) (by kernel_rfl) (by kernel_rfl) (by kernel_rfl)) ?_
  intro W base args ds gs before hval0 hW hcnd _
  have hval : ∀ (j : Nat) t v, Uaig.f6.params[j]? = some t → args[j]? = some v → Value.okWide Uaig.prog W .any base t v := hval0
  have hW' := hW
  obtain ⟨p, q, hA0, hV, rfl, hfz, hnd⟩ := hW
  have hA : DataW.TrodAll enc Uaig.prog W 0 (fun _ => true) true Uaig.f6.params.toList args.toList ds p := hA0
  rw [Uaig.params6] at hA hval
  obtain ⟨v0, vs0, d0, ds0, p0, q0, hargs, rfl, rfl, h0, r0⟩ := trodAll_cons hA
  obtain ⟨v1, vs1, d1, ds1, p1, q1, rfl, rfl, rfl, h1, r1⟩ := trodAll_cons r0
  obtain ⟨rfl, rfl, rfl⟩ := trodAll_nil r1
  obtain rfl : args = #[v0, v1] := by cases args; simp_all
  obtain ⟨rfl, rfl⟩ := trodVars_none hV
  obtain ⟨a0, rfl, rfl, rfl, w0⟩ := open_float Uaig.underlying24 (hval 0 24 v0 rfl rfl) h0
  obtain ⟨a1, rfl, rfl, rfl, w1⟩ := open_float Uaig.underlying24 (hval 1 24 v1 rfl rfl) h1
  clear hA0 hval0
  refine (walk a0 a1 W).mono fun e W' ⟨he, bel⟩ => ?_
  subst he
  exact ⟨_, rfl, _, _, _, [], _, [], hW', trodAll_mk1 (shut_bool Uaig.underlying4 _), (trodAll_cons_mk (shut_float Uaig.underlying24 w0) (trodAll_cons_mk (shut_float Uaig.underlying24 w1) trodAll_mk0)), rfl, bel.frame _, fun h => by cases h⟩

theorem over : Rows.fnFloorMonotoneIdempotentRow.holds Uaig.pinned (OpenSpec.ofChange Rows.fnFloorMonotoneIdempotentSpec) :=
  OpenClaim.holds_of_wide 6 Uaig.f6 rfl rfl rfl rfl rfl rfl rfl ⟨rfl, rfl, rfl, rfl, rfl⟩ rfl rfl rfl rfl rfl (by kernel_rfl) Uaig.func6 (by kernel_rfl)
    (of_decide_eq_true (by kernel_rfl)) (by unfold Func.isWrapper; first | (rw [if_pos (by decide +kernel)]; kernel_rfl) | (rw [if_neg (by decide +kernel)]; exact ⟨rfl, rfl⟩))
    (fun os started H enc _ => lifted os started H enc)

/-- ████ THE STATEMENT ████ -/
theorem proved : Rows.FnFloorMonotoneIdempotentSaid :=
  over
end Go.Proofs.Youaiw.fnFloorMonotoneIdempotent
namespace Go.Proofs.Youaiw
/-- The statement, by one plain name. -/
theorem fnFloorMonotoneIdempotent_holds : Rows.FnFloorMonotoneIdempotentSaid := fnFloorMonotoneIdempotent.proved
end Go.Proofs.Youaiw
