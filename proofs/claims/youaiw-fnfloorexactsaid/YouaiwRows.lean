/-
  No cell of these rows narrows 'for every input' (looked for: loops, veiled, ifaces, maps, wideKeys, modest, calm, conditions, laid).
  DERIVED. THE GIVEN ROWS OF THIS SEAT. 6 by the template 'for every input the law returns true; each argument reads behind the call as it read before'; 0 by the template 'total and deterministic' (their statements: YouaiwTotals.lean).
  GIVEN WITH THE SEED: the statements are not yours to turn. If you find one false, say at which input.
  Laid BY PROGRAM, IN A SANDBOX (cutbox-rows.mjs): the forced cells as the released guide's own fill.sh prints them over the translation 7a19a50e97a4e3f1… (all of the seat's roots in one cut). By AI agents, Wed Nov 11 2026. No macro, syntax, notation, axiom, sorry.
-/
import Derived.Test.YouaiwChecked
import GoSem.Claim
import GoSem.ClaimJoined
import GoSem.ClaimMapViews
import Derived.JoinedTies
import Derived.KernelRfl
namespace Go.Proofs.Youaiw
/- THE CELL 'sum', in the pinned program and in every row, IS THE sha256 OF THE DUMP (.gsa) THAT YouaiwProg.lean LOADS. Nothing in Lean hashes anything: it is a label: what it is worth is what the hold of that sum in a sandbox is worth. -/
noncomputable def Uaig.pinned : Pinned := { name := "youaiw", sum := "7a19a50e97a4e3f17544ab459e9348492a0c1a3f3ad5b99bf3c425d4a4c7c383", checked := Uaig.checked }
namespace Rows
def none {H : Type} : Left H := { results := [], args := [] }

/-- 'zzlaws_root_b6.FnEndsWithExact': WHATEVER THE INPUT: true; the input reads as it did. -/
def fnEndsWithExactSpec : ChangeSpec := { name := "fnEndsWithExact", fn := fun _ => fun
  | [d1, d2] => { results := [.lit (.bool true)], args := [d1, d2] }
  | _ => none }
def fnEndsWithExactRow : OpenClaim := { program := "youaiw", sum := "7a19a50e97a4e3f17544ab459e9348492a0c1a3f3ad5b99bf3c425d4a4c7c383", func := "github.com/jmespath/go-jmespath/zzlaws_root_b6.FnEndsWithExact", spec := "fnEndsWithExact", apart := false }
def FnEndsWithExactSaid : Prop := fnEndsWithExactRow.holds Uaig.pinned (OpenSpec.ofChange fnEndsWithExactSpec)

/-- ITS FALSE NEIGHBOUR: 'it returns false'. Refute it at one input. -/
def fnEndsWithExactWrong : ChangeSpec := { name := "fnEndsWithExact", fn := fun _ => fun
  | [d1, d2] => { results := [.lit (.bool false)], args := [d1, d2] }
  | _ => none }
def FnEndsWithExactWrongFalsely : Prop := fnEndsWithExactRow.holds Uaig.pinned (OpenSpec.ofChange fnEndsWithExactWrong)

/-- 'zzlaws_root_b6.FnEndsWithMirrorsStartsWith': WHATEVER THE INPUT: true; the input reads as it did. -/
def fnEndsWithMirrorsStartsWithSpec : ChangeSpec := { name := "fnEndsWithMirrorsStartsWith", fn := fun _ => fun
  | [d1, d2] => { results := [.lit (.bool true)], args := [d1, d2] }
  | _ => none }
def fnEndsWithMirrorsStartsWithRow : OpenClaim := { program := "youaiw", sum := "7a19a50e97a4e3f17544ab459e9348492a0c1a3f3ad5b99bf3c425d4a4c7c383", func := "github.com/jmespath/go-jmespath/zzlaws_root_b6.FnEndsWithMirrorsStartsWith", spec := "fnEndsWithMirrorsStartsWith", apart := false }
def FnEndsWithMirrorsStartsWithSaid : Prop := fnEndsWithMirrorsStartsWithRow.holds Uaig.pinned (OpenSpec.ofChange fnEndsWithMirrorsStartsWithSpec)

/-- ITS FALSE NEIGHBOUR: 'it returns false'. Refute it at one input. -/
def fnEndsWithMirrorsStartsWithWrong : ChangeSpec := { name := "fnEndsWithMirrorsStartsWith", fn := fun _ => fun
  | [d1, d2] => { results := [.lit (.bool false)], args := [d1, d2] }
  | _ => none }
def FnEndsWithMirrorsStartsWithWrongFalsely : Prop := fnEndsWithMirrorsStartsWithRow.holds Uaig.pinned (OpenSpec.ofChange fnEndsWithMirrorsStartsWithWrong)

/-- 'zzlaws_root_b6.FnFloorExact': WHATEVER THE INPUT: true; the input reads as it did. -/
def fnFloorExactSpec : ChangeSpec := { name := "fnFloorExact", fn := fun _ => fun
  | [d] => { results := [.lit (.bool true)], args := [d] }
  | _ => none }
def fnFloorExactRow : OpenClaim := { program := "youaiw", sum := "7a19a50e97a4e3f17544ab459e9348492a0c1a3f3ad5b99bf3c425d4a4c7c383", func := "github.com/jmespath/go-jmespath/zzlaws_root_b6.FnFloorExact", spec := "fnFloorExact", inPlace := ["math.archFloor", "math.Float64bits", "math.Float64frombits", "math.archTrunc"], apart := false }
def FnFloorExactSaid : Prop := fnFloorExactRow.holds Uaig.pinned (OpenSpec.ofChange fnFloorExactSpec)

/-- ITS FALSE NEIGHBOUR: 'it returns false'. Refute it at one input. -/
def fnFloorExactWrong : ChangeSpec := { name := "fnFloorExact", fn := fun _ => fun
  | [d] => { results := [.lit (.bool false)], args := [d] }
  | _ => none }
def FnFloorExactWrongFalsely : Prop := fnFloorExactRow.holds Uaig.pinned (OpenSpec.ofChange fnFloorExactWrong)

/-- 'zzlaws_root_b6.FnFloorMonotoneIdempotent': WHATEVER THE INPUT: true; the input reads as it did. -/
def fnFloorMonotoneIdempotentSpec : ChangeSpec := { name := "fnFloorMonotoneIdempotent", fn := fun _ => fun
  | [d1, d2] => { results := [.lit (.bool true)], args := [d1, d2] }
  | _ => none }
def fnFloorMonotoneIdempotentRow : OpenClaim := { program := "youaiw", sum := "7a19a50e97a4e3f17544ab459e9348492a0c1a3f3ad5b99bf3c425d4a4c7c383", func := "github.com/jmespath/go-jmespath/zzlaws_root_b6.FnFloorMonotoneIdempotent", spec := "fnFloorMonotoneIdempotent", inPlace := ["math.archFloor", "math.Float64bits", "math.Float64frombits", "math.archTrunc"], apart := false }
def FnFloorMonotoneIdempotentSaid : Prop := fnFloorMonotoneIdempotentRow.holds Uaig.pinned (OpenSpec.ofChange fnFloorMonotoneIdempotentSpec)

/-- ITS FALSE NEIGHBOUR: 'it returns false'. Refute it at one input. -/
def fnFloorMonotoneIdempotentWrong : ChangeSpec := { name := "fnFloorMonotoneIdempotent", fn := fun _ => fun
  | [d1, d2] => { results := [.lit (.bool false)], args := [d1, d2] }
  | _ => none }
def FnFloorMonotoneIdempotentWrongFalsely : Prop := fnFloorMonotoneIdempotentRow.holds Uaig.pinned (OpenSpec.ofChange fnFloorMonotoneIdempotentWrong)

/-- 'zzlaws_root_b6.FnMaxNumbersExact': WHATEVER THE INPUT: true; the input reads as it did. -/
def fnMaxNumbersExactSpec : ChangeSpec := { name := "fnMaxNumbersExact", fn := fun _ => fun
  | [d] => { results := [.lit (.bool true)], args := [d] }
  | _ => none }
def fnMaxNumbersExactRow : OpenClaim := { program := "youaiw", sum := "7a19a50e97a4e3f17544ab459e9348492a0c1a3f3ad5b99bf3c425d4a4c7c383", func := "github.com/jmespath/go-jmespath/zzlaws_root_b6.FnMaxNumbersExact", spec := "fnMaxNumbersExact", apart := false }
def FnMaxNumbersExactSaid : Prop := fnMaxNumbersExactRow.holds Uaig.pinned (OpenSpec.ofChange fnMaxNumbersExactSpec)

/-- ITS FALSE NEIGHBOUR: 'it returns false'. Refute it at one input. -/
def fnMaxNumbersExactWrong : ChangeSpec := { name := "fnMaxNumbersExact", fn := fun _ => fun
  | [d] => { results := [.lit (.bool false)], args := [d] }
  | _ => none }
def FnMaxNumbersExactWrongFalsely : Prop := fnMaxNumbersExactRow.holds Uaig.pinned (OpenSpec.ofChange fnMaxNumbersExactWrong)

/-- 'zzlaws_root_b6.FnMaxStringsExact': WHATEVER THE INPUT: true; the input reads as it did. -/
def fnMaxStringsExactSpec : ChangeSpec := { name := "fnMaxStringsExact", fn := fun _ => fun
  | [d] => { results := [.lit (.bool true)], args := [d] }
  | _ => none }
def fnMaxStringsExactRow : OpenClaim := { program := "youaiw", sum := "7a19a50e97a4e3f17544ab459e9348492a0c1a3f3ad5b99bf3c425d4a4c7c383", func := "github.com/jmespath/go-jmespath/zzlaws_root_b6.FnMaxStringsExact", spec := "fnMaxStringsExact", apart := false }
def FnMaxStringsExactSaid : Prop := fnMaxStringsExactRow.holds Uaig.pinned (OpenSpec.ofChange fnMaxStringsExactSpec)

/-- ITS FALSE NEIGHBOUR: 'it returns false'. Refute it at one input. -/
def fnMaxStringsExactWrong : ChangeSpec := { name := "fnMaxStringsExact", fn := fun _ => fun
  | [d] => { results := [.lit (.bool false)], args := [d] }
  | _ => none }
def FnMaxStringsExactWrongFalsely : Prop := fnMaxStringsExactRow.holds Uaig.pinned (OpenSpec.ofChange fnMaxStringsExactWrong)

end Rows
end Go.Proofs.Youaiw
