/-
  'Rows.FnEndsWithMirrorsStartsWithSaid': the frame is the guide's skeleton at this function's number and types, closed by 'Below' as its frame for slices is; the walk lies in YouaiwMirrorWalk.
-/
import Derived.Test.YouaiwRows
import Derived.WalkKit
import Derived.ProofKit
import Derived.OpenShut
import Derived.ShutString
import Derived.ChangeOld
import Derived.Below
import Derived.Test.YouaiwMirrorWalk
namespace Go.Proofs.Youaiw.fnEndsWithMirrorsStartsWith
open Go.ChangeShapes Go.WideShapes Go.ChangeAt Go.RowKit
open Go.ChangeMaps (open_string shut_string)
set_option linter.unusedVariables false      -- a walk need not use every 'w<i>' (that an integer argument fits its kind)

theorem own : ownKnob Uaig.prog.godebug = none := by kernel_rfl

theorem walk (a0 : ByteArray) (a1 : ByteArray) (w0 : a0.size ≤ maxLen) (w1 : a1.size ≤ maxLen) (w : World) :
    Calls Uaig.prog 4 #[.string a0, .string a1] w fun e w' => e = .returned (.bool true) ∧ Below w.heap.size w w' := by
  by_cases h : a0.size + a1.size ≤ 1048576
  · exact mirror_walk a0 a1 h w
  · exact mirror_big a0 a1 w0 w1 h w

/-! ### THE ROW's STEP: WRITTEN OUT: LEAVE IT -/
set_option maxRecDepth 100000 in
theorem lifted (os : Os) (started : os.Started) (H : Type) (enc : TypeId × Value → H) :
    ReturnsInHanded {} Uaig.checked os 4 .any (Rows.fnEndsWithMirrorsStartsWithSpec.pre6 enc Uaig.prog Uaig.f4 Rows.fnEndsWithMirrorsStartsWithRow.domain false) (Rows.fnEndsWithMirrorsStartsWithSpec.post enc Uaig.prog Uaig.f4 false true false false) := by
  refine returnsInHanded_of_change (C := Uaig.checked) own started (by kernel_rfl) Uaig.func4
    (ChangeSpec.witness6 (enc := enc) (C := Uaig.checked) false ⟨#[], #[.string ByteArray.empty, .string ByteArray.empty], []⟩ 8 (by kernel_rfl) (by kernel_rfl) (by kernel_rfl) (by kernel_rfl)) ?_
  intro W base args ds gs before hval0 hW hcnd _
  have hval : ∀ (j : Nat) t v, Uaig.f4.params[j]? = some t → args[j]? = some v → Value.okWide Uaig.prog W .any base t v := hval0
  have hW' := hW
  obtain ⟨p, q, hA0, hV, rfl, hfz, hnd⟩ := hW
  have hA : DataW.TrodAll enc Uaig.prog W 0 (fun _ => true) true Uaig.f4.params.toList args.toList ds p := hA0
  rw [Uaig.params4] at hA hval
  obtain ⟨v0, vs0, d0, ds0, p0, q0, hargs, rfl, rfl, h0, r0⟩ := trodAll_cons hA
  obtain ⟨v1, vs1, d1, ds1, p1, q1, rfl, rfl, rfl, h1, r1⟩ := trodAll_cons r0
  obtain ⟨rfl, rfl, rfl⟩ := trodAll_nil r1
  obtain rfl : args = #[v0, v1] := by cases args; simp_all
  obtain ⟨rfl, rfl⟩ := trodVars_none hV
  obtain ⟨a0, rfl, rfl, rfl, w0⟩ := open_string Uaig.underlying9 (hval 0 9 v0 rfl rfl) h0
  obtain ⟨a1, rfl, rfl, rfl, w1⟩ := open_string Uaig.underlying9 (hval 1 9 v1 rfl rfl) h1
  clear hA0 hval0
  refine (walk a0 a1 w0 w1 W).mono fun e W' ⟨he, bel⟩ => ?_
  subst he
  exact ⟨_, rfl, _, _, _, [], _, [], hW', trodAll_mk1 (shut_bool Uaig.underlying4 _), (trodAll_cons_mk (shut_string Uaig.underlying9 w0) (trodAll_cons_mk (shut_string Uaig.underlying9 w1) trodAll_mk0)), rfl, bel.frame _, fun h => by cases h⟩

theorem over : Rows.fnEndsWithMirrorsStartsWithRow.holds Uaig.pinned (OpenSpec.ofChange Rows.fnEndsWithMirrorsStartsWithSpec) :=
  OpenClaim.holds_of_wide 4 Uaig.f4 rfl rfl rfl rfl rfl rfl rfl ⟨rfl, rfl, rfl, rfl, rfl⟩ rfl rfl rfl rfl rfl (by kernel_rfl) Uaig.func4 (by kernel_rfl)
    (of_decide_eq_true (by kernel_rfl)) (by unfold Func.isWrapper; first | (rw [if_pos (by decide +kernel)]; kernel_rfl) | (rw [if_neg (by decide +kernel)]; exact ⟨rfl, rfl⟩))
    (fun os started H enc _ => lifted os started H enc)

/-- ████ THE STATEMENT ████ -/
theorem proved : Rows.FnEndsWithMirrorsStartsWithSaid :=
  over
end Go.Proofs.Youaiw.fnEndsWithMirrorsStartsWith
namespace Go.Proofs.Youaiw
/-- The statement, by one plain name. -/
theorem fnEndsWithMirrorsStartsWith_holds : Rows.FnEndsWithMirrorsStartsWithSaid := fnEndsWithMirrorsStartsWith.proved
end Go.Proofs.Youaiw
