/-
  No cell of these rows narrows 'for every input' (looked for: loops, veiled, ifaces, maps, wideKeys, modest, calm, conditions, laid).
  DERIVED. THE GIVEN ROWS OF THIS SEAT. 4 by the template 'for every input the law returns true; each argument reads behind the call as it read before'; 0 by the template 'total and deterministic' (their statements: Qxb6602856aTotals.lean).
  GIVEN WITH THE SEED: the statements are not yours to turn. If you find one false, say at which input.
  Laid BY PROGRAM, IN A SANDBOX (cutbox-rows.mjs): the forced cells as the released guide's own fill.sh prints them over the translation b2f38bb2948b51cf… (all of the seat's roots in one cut). By AI agents, Wed Nov 11 2026. No macro, syntax, notation, axiom, sorry.
-/
import Derived.Test.Qxb6602856aChecked
import GoSem.Claim
import GoSem.ClaimJoined
import GoSem.ClaimMapViews
import Derived.JoinedTies
import Derived.KernelRfl
namespace Go.Proofs.Qxb6602856a
/- THE CELL 'sum', in the pinned program and in every row, IS THE sha256 OF THE DUMP (.gsa) THAT Qxb6602856aProg.lean LOADS. Nothing in Lean hashes anything: it is a label: what it is worth is what the hold of that sum in a sandbox is worth. -/
noncomputable def Try.pinned : Pinned := { name := "qxb6602856a", sum := "b2f38bb2948b51cf556fa201af779813eba13ac5f31bdcc76d44c64cccdbd8c0", checked := Try.checked }
namespace Rows
def none {H : Type} : Left H := { results := [], args := [] }

/-- 'zzlaws_internal_api_b1.FnValidEnvNameConcat': WHATEVER THE INPUT: true; the input reads as it did. -/
def fnValidEnvNameConcatSpec : ChangeSpec := { name := "fnValidEnvNameConcat", fn := fun _ => fun
  | [d1, d2] => { results := [.lit (.bool true)], args := [d1, d2] }
  | _ => none }
def fnValidEnvNameConcatRow : OpenClaim := { program := "qxb6602856a", sum := "b2f38bb2948b51cf556fa201af779813eba13ac5f31bdcc76d44c64cccdbd8c0", func := "example.com/cohort/cohort/zzlaws_internal_api_b1.FnValidEnvNameConcat", spec := "fnValidEnvNameConcat", apart := false }
def FnValidEnvNameConcatSaid : Prop := fnValidEnvNameConcatRow.holds Try.pinned (OpenSpec.ofChange fnValidEnvNameConcatSpec)

/-- ITS FALSE NEIGHBOUR: 'it returns false'. Refute it at one input. -/
def fnValidEnvNameConcatWrong : ChangeSpec := { name := "fnValidEnvNameConcat", fn := fun _ => fun
  | [d1, d2] => { results := [.lit (.bool false)], args := [d1, d2] }
  | _ => none }
def FnValidEnvNameConcatWrongFalsely : Prop := fnValidEnvNameConcatRow.holds Try.pinned (OpenSpec.ofChange fnValidEnvNameConcatWrong)

/-- 'zzlaws_internal_api_b1.FnValidEnvNameSplitsAtEquals': WHATEVER THE INPUT: true; the input reads as it did. -/
def fnValidEnvNameSplitsAtEqualsSpec : ChangeSpec := { name := "fnValidEnvNameSplitsAtEquals", fn := fun _ => fun
  | [d1, d2] => { results := [.lit (.bool true)], args := [d1, d2] }
  | _ => none }
def fnValidEnvNameSplitsAtEqualsRow : OpenClaim := { program := "qxb6602856a", sum := "b2f38bb2948b51cf556fa201af779813eba13ac5f31bdcc76d44c64cccdbd8c0", func := "example.com/cohort/cohort/zzlaws_internal_api_b1.FnValidEnvNameSplitsAtEquals", spec := "fnValidEnvNameSplitsAtEquals", apart := false }
def FnValidEnvNameSplitsAtEqualsSaid : Prop := fnValidEnvNameSplitsAtEqualsRow.holds Try.pinned (OpenSpec.ofChange fnValidEnvNameSplitsAtEqualsSpec)

/-- ITS FALSE NEIGHBOUR: 'it returns false'. Refute it at one input. -/
def fnValidEnvNameSplitsAtEqualsWrong : ChangeSpec := { name := "fnValidEnvNameSplitsAtEquals", fn := fun _ => fun
  | [d1, d2] => { results := [.lit (.bool false)], args := [d1, d2] }
  | _ => none }
def FnValidEnvNameSplitsAtEqualsWrongFalsely : Prop := fnValidEnvNameSplitsAtEqualsRow.holds Try.pinned (OpenSpec.ofChange fnValidEnvNameSplitsAtEqualsWrong)

/-- 'zzlaws_internal_api_b1.FnGivenExact': WHATEVER THE INPUT: true; the input reads as it did. -/
def fnGivenExactSpec : ChangeSpec := { name := "fnGivenExact", fn := fun _ => fun
  | [d1, d2, d3, d4, d5, d6] => { results := [.lit (.bool true)], args := [d1, d2, d3, d4, d5, d6] }
  | _ => none }
def fnGivenExactRow : OpenClaim := { program := "qxb6602856a", sum := "b2f38bb2948b51cf556fa201af779813eba13ac5f31bdcc76d44c64cccdbd8c0", func := "example.com/cohort/cohort/zzlaws_internal_api_b1.FnGivenExact", spec := "fnGivenExact", apart := false }
def FnGivenExactSaid : Prop := fnGivenExactRow.holds Try.pinned (OpenSpec.ofChange fnGivenExactSpec)

/-- ITS FALSE NEIGHBOUR: 'it returns false'. Refute it at one input. -/
def fnGivenExactWrong : ChangeSpec := { name := "fnGivenExact", fn := fun _ => fun
  | [d1, d2, d3, d4, d5, d6] => { results := [.lit (.bool false)], args := [d1, d2, d3, d4, d5, d6] }
  | _ => none }
def FnGivenExactWrongFalsely : Prop := fnGivenExactRow.holds Try.pinned (OpenSpec.ofChange fnGivenExactWrong)

/-- 'zzlaws_internal_api_b1.FnGivenMonotone': WHATEVER THE INPUT: true; the input reads as it did. -/
def fnGivenMonotoneSpec : ChangeSpec := { name := "fnGivenMonotone", fn := fun _ => fun
  | [d1, d2, d3, d4, d5, d6, d7, d8] => { results := [.lit (.bool true)], args := [d1, d2, d3, d4, d5, d6, d7, d8] }
  | _ => none }
def fnGivenMonotoneRow : OpenClaim := { program := "qxb6602856a", sum := "b2f38bb2948b51cf556fa201af779813eba13ac5f31bdcc76d44c64cccdbd8c0", func := "example.com/cohort/cohort/zzlaws_internal_api_b1.FnGivenMonotone", spec := "fnGivenMonotone", apart := false }
def FnGivenMonotoneSaid : Prop := fnGivenMonotoneRow.holds Try.pinned (OpenSpec.ofChange fnGivenMonotoneSpec)

/-- ITS FALSE NEIGHBOUR: 'it returns false'. Refute it at one input. -/
def fnGivenMonotoneWrong : ChangeSpec := { name := "fnGivenMonotone", fn := fun _ => fun
  | [d1, d2, d3, d4, d5, d6, d7, d8] => { results := [.lit (.bool false)], args := [d1, d2, d3, d4, d5, d6, d7, d8] }
  | _ => none }
def FnGivenMonotoneWrongFalsely : Prop := fnGivenMonotoneRow.holds Try.pinned (OpenSpec.ofChange fnGivenMonotoneWrong)

end Rows
end Go.Proofs.Qxb6602856a
