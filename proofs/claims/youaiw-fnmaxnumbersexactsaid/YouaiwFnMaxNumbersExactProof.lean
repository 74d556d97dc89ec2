/-
  'Rows.FnMaxNumbersExactSaid': the frame is the guide's skeleton for slices, turned to a slice of floats; the walk lies in YouaiwMaxNWalk.
-/
import Derived.Test.YouaiwRows
import Derived.WalkKit
import Derived.ProofKit
import Derived.OpenShut
import Derived.ShutString
import Derived.ChangeOld
import Derived.Below
import Derived.Test.YouaiwRowKit
import Derived.Test.YouaiwMaxNWalk
namespace Go.Proofs.Youaiw.fnMaxNumbersExact
open Go.ChangeShapes Go.WideShapes Go.ChangeAt Go.RowKit
open Go.ChangeMaps (open_string shut_string)
set_option linter.unusedVariables false

theorem walk (a0 : Option Addr) (len0 cap0 : Nat) (z0 : Nat → Nat) (w : World) (w0 : IsRow w a0 len0 cap0 (fun i => .float .f64 (z0 i))) :
    Calls Uaig.prog 7 #[.slice a0 len0 cap0] w fun e w' => e = .returned (.bool true) ∧ Below w.heap.size w w' := by
  rcases w0 with ⟨rfl, rfl, rfl⟩ | ⟨x, rfl, rfl⟩ | ⟨b, off, rfl, h1, hm, hc⟩
  · exact maxN_nil w
  · exact maxN_empty x cap0 w
  · by_cases hb : len0 ≤ 65536
    · by_cases hn : num (z0 0)
      · exact maxN_any b off len0 cap0 z0 w h1 hb hn hc
      · exact maxN_nan b off len0 cap0 z0 w h1 hb hn hc
    · exact maxN_big _ len0 cap0 w (by omega) hm

/-! ### THE ROW's STEP: WRITTEN OUT: LEAVE IT -/
set_option maxRecDepth 100000 in
theorem lifted (os : Os) (started : os.Started) (H : Type) (enc : TypeId × Value → H) :
    ReturnsInHanded {} Uaig.checked os 7 .any (Rows.fnMaxNumbersExactSpec.pre6 enc Uaig.prog Uaig.f7 Rows.fnMaxNumbersExactRow.domain false) (Rows.fnMaxNumbersExactSpec.post enc Uaig.prog Uaig.f7 false true false false) := by
  refine returnsInHanded_of_change (C := Uaig.checked) own started (by kernel_rfl) Uaig.func7
    (ChangeSpec.witness6 (enc := enc) (C := Uaig.checked) false ⟨#[], #[.slice none 0 0], []⟩ 8 (by kernel_rfl) (by kernel_rfl) (by kernel_rfl) (by kernel_rfl)) ?_
  intro W base args ds gs before hval0 hW hcnd _
  have hval : ∀ (j : Nat) t v, Uaig.f7.params[j]? = some t → args[j]? = some v → Value.okWide Uaig.prog W .any base t v := hval0
  have hW' := hW
  obtain ⟨p, q, hA0, hV, rfl, hfz, hnd⟩ := hW
  have hA : DataW.TrodAll enc Uaig.prog W 0 (fun _ => true) true Uaig.f7.params.toList args.toList ds p := hA0
  rw [Uaig.params7] at hA hval
  obtain ⟨v0, vs0, d0, ds0, p0, q0, hargs, rfl, rfl, h0, r0⟩ := trodAll_cons hA
  obtain ⟨rfl, rfl, rfl⟩ := trodAll_nil r0
  obtain rfl : args = #[v0] := by cases args; simp_all
  obtain ⟨rfl, rfl⟩ := trodVars_none hV
  obtain ⟨a0, len0, cap0, rfl⟩ := okWide_slice Uaig.underlying28 (hval 0 28 v0 rfl rfl)
  have k0 := h0
  have lt0 : ∀ x ∈ p0, x.block < W.heap.size := by obtain ⟨m, hm⟩ := k0; exact DataW.trod_lt m _ _ _ hm
  obtain ⟨z0, w0⟩ : ∃ z : Nat → Nat, IsRow W a0 len0 cap0 (fun i => .float .f64 (z i)) := by
    obtain ⟨fuel, hf⟩ := h0
    exact open_floats Uaig.underlying28 Uaig.underlying24 (by kernel_rfl) (by simpa [Value.cells] using hf)
  clear hA0 hval0
  refine (walk a0 len0 cap0 z0 W w0).mono fun e W' ⟨he, bel⟩ => ?_
  subst he
  exact ⟨_, rfl, _, _, _, [], _, [], hW', trodAll_mk1 (shut_bool Uaig.underlying4 _), (trodAll_cons_mk (Below.trod laidOut (by kernel_rfl) (of_decide_eq_true (by kernel_rfl)) k0 bel lt0) trodAll_mk0), rfl, bel.frame _, fun h => by cases h⟩

theorem over : Rows.fnMaxNumbersExactRow.holds Uaig.pinned (OpenSpec.ofChange Rows.fnMaxNumbersExactSpec) :=
  OpenClaim.holds_of_wide 7 Uaig.f7 rfl rfl rfl rfl rfl rfl rfl ⟨rfl, rfl, rfl, rfl, rfl⟩ rfl rfl rfl rfl rfl (by kernel_rfl) Uaig.func7 (by kernel_rfl)
    (of_decide_eq_true (by kernel_rfl)) (by unfold Func.isWrapper; first | (rw [if_pos (by decide +kernel)]; kernel_rfl) | (rw [if_neg (by decide +kernel)]; exact ⟨rfl, rfl⟩))
    (fun os started H enc _ => lifted os started H enc)

/-- ████ THE STATEMENT ████ -/
theorem proved : Rows.FnMaxNumbersExactSaid := over
end Go.Proofs.Youaiw.fnMaxNumbersExact
namespace Go.Proofs.Youaiw
/-- The statement, by one plain name. -/
theorem fnMaxNumbersExact_holds : Rows.FnMaxNumbersExactSaid := fnMaxNumbersExact.proved
end Go.Proofs.Youaiw
