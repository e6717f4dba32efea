/-
  No cell of these rows narrows 'for every input' (looked for: loops, veiled, ifaces, maps, wideKeys, modest, calm, conditions, laid).
  DERIVED. THE GIVEN ROWS OF THIS SEAT. 5 by the template 'for every input the law returns true; each argument reads behind the call as it read before'; 0 by the template 'total and deterministic' (their statements: Qxb6602837aTotals.lean).
  GIVEN WITH THE SEED: the statements are not yours to turn. If you find one false, say at which input.
  Laid BY PROGRAM, IN A SANDBOX (cutbox-rows.mjs): the forced cells as the released guide's own fill.sh prints them over the translation e0c177a70d5446ef… (all of the seat's roots in one cut). By AI agents, Wed Nov 11 2026. No macro, syntax, notation, axiom, sorry.
-/
import Derived.Test.Qxb6602837aChecked
import GoSem.Claim
import GoSem.ClaimJoined
import GoSem.ClaimMapViews
import Derived.JoinedTies
import Derived.KernelRfl
namespace Go.Proofs.Qxb6602837a
/- THE CELL 'sum', in the pinned program and in every row, IS THE sha256 OF THE DUMP (.gsa) THAT Qxb6602837aProg.lean LOADS. Nothing in Lean hashes anything: it is a label: what it is worth is what the hold of that sum in a sandbox is worth. -/
noncomputable def Try.pinned : Pinned := { name := "qxb6602837a", sum := "e0c177a70d5446efb4f1fbe45c4a91b13ff6f0426235a25111de3967998762c9", checked := Try.checked }
namespace Rows
def none {H : Type} : Left H := { results := [], args := [] }

/-- 'zzlaws_pkg_gate_b1.FnMannWhitneyCountsPairs': WHATEVER THE INPUT: true; the input reads as it did. -/
def fnMannWhitneyCountsPairsSpec : ChangeSpec := { name := "fnMannWhitneyCountsPairs", fn := fun _ => fun
  | [d1, d2, d3] => { results := [.lit (.bool true)], args := [d1, d2, d3] }
  | _ => none }
def fnMannWhitneyCountsPairsRow : OpenClaim := { program := "qxb6602837a", sum := "e0c177a70d5446efb4f1fbe45c4a91b13ff6f0426235a25111de3967998762c9", func := "example.com/stepgate/stepgate/zzlaws_pkg_gate_b1.FnMannWhitneyCountsPairs", spec := "fnMannWhitneyCountsPairs", apart := false }
def FnMannWhitneyCountsPairsSaid : Prop := fnMannWhitneyCountsPairsRow.holds Try.pinned (OpenSpec.ofChange fnMannWhitneyCountsPairsSpec)

/-- ITS FALSE NEIGHBOUR: 'it returns false'. Refute it at one input. -/
def fnMannWhitneyCountsPairsWrong : ChangeSpec := { name := "fnMannWhitneyCountsPairs", fn := fun _ => fun
  | [d1, d2, d3] => { results := [.lit (.bool false)], args := [d1, d2, d3] }
  | _ => none }
def FnMannWhitneyCountsPairsWrongFalsely : Prop := fnMannWhitneyCountsPairsRow.holds Try.pinned (OpenSpec.ofChange fnMannWhitneyCountsPairsWrong)

/-- 'zzlaws_pkg_gate_b1.FnMannWhitneySwapSides': WHATEVER THE INPUT: true; the input reads as it did. -/
def fnMannWhitneySwapSidesSpec : ChangeSpec := { name := "fnMannWhitneySwapSides", fn := fun _ => fun
  | [d1, d2] => { results := [.lit (.bool true)], args := [d1, d2] }
  | _ => none }
def fnMannWhitneySwapSidesRow : OpenClaim := { program := "qxb6602837a", sum := "e0c177a70d5446efb4f1fbe45c4a91b13ff6f0426235a25111de3967998762c9", func := "example.com/stepgate/stepgate/zzlaws_pkg_gate_b1.FnMannWhitneySwapSides", spec := "fnMannWhitneySwapSides", apart := false }
def FnMannWhitneySwapSidesSaid : Prop := fnMannWhitneySwapSidesRow.holds Try.pinned (OpenSpec.ofChange fnMannWhitneySwapSidesSpec)

/-- ITS FALSE NEIGHBOUR: 'it returns false'. Refute it at one input. -/
def fnMannWhitneySwapSidesWrong : ChangeSpec := { name := "fnMannWhitneySwapSides", fn := fun _ => fun
  | [d1, d2] => { results := [.lit (.bool false)], args := [d1, d2] }
  | _ => none }
def FnMannWhitneySwapSidesWrongFalsely : Prop := fnMannWhitneySwapSidesRow.holds Try.pinned (OpenSpec.ofChange fnMannWhitneySwapSidesWrong)

/-- 'zzlaws_pkg_gate_b1.FnMarginEffectCountsPairs': WHATEVER THE INPUT: true; the input reads as it did. -/
def fnMarginEffectCountsPairsSpec : ChangeSpec := { name := "fnMarginEffectCountsPairs", fn := fun _ => fun
  | [d1, d2, d3, d4, d5, d6, d7, d8, d9] => { results := [.lit (.bool true)], args := [d1, d2, d3, d4, d5, d6, d7, d8, d9] }
  | _ => none }
def fnMarginEffectCountsPairsRow : OpenClaim := { program := "qxb6602837a", sum := "e0c177a70d5446efb4f1fbe45c4a91b13ff6f0426235a25111de3967998762c9", func := "example.com/stepgate/stepgate/zzlaws_pkg_gate_b1.FnMarginEffectCountsPairs", spec := "fnMarginEffectCountsPairs", apart := false }
def FnMarginEffectCountsPairsSaid : Prop := fnMarginEffectCountsPairsRow.holds Try.pinned (OpenSpec.ofChange fnMarginEffectCountsPairsSpec)

/-- ITS FALSE NEIGHBOUR: 'it returns false'. Refute it at one input. -/
def fnMarginEffectCountsPairsWrong : ChangeSpec := { name := "fnMarginEffectCountsPairs", fn := fun _ => fun
  | [d1, d2, d3, d4, d5, d6, d7, d8, d9] => { results := [.lit (.bool false)], args := [d1, d2, d3, d4, d5, d6, d7, d8, d9] }
  | _ => none }
def FnMarginEffectCountsPairsWrongFalsely : Prop := fnMarginEffectCountsPairsRow.holds Try.pinned (OpenSpec.ofChange fnMarginEffectCountsPairsWrong)

/-- 'zzlaws_pkg_gate_b1.FnMarginEffectGrowsWithMargin': WHATEVER THE INPUT: true; the input reads as it did. -/
def fnMarginEffectGrowsWithMarginSpec : ChangeSpec := { name := "fnMarginEffectGrowsWithMargin", fn := fun _ => fun
  | [d1, d2, d3, d4] => { results := [.lit (.bool true)], args := [d1, d2, d3, d4] }
  | _ => none }
def fnMarginEffectGrowsWithMarginRow : OpenClaim := { program := "qxb6602837a", sum := "e0c177a70d5446efb4f1fbe45c4a91b13ff6f0426235a25111de3967998762c9", func := "example.com/stepgate/stepgate/zzlaws_pkg_gate_b1.FnMarginEffectGrowsWithMargin", spec := "fnMarginEffectGrowsWithMargin", apart := false }
def FnMarginEffectGrowsWithMarginSaid : Prop := fnMarginEffectGrowsWithMarginRow.holds Try.pinned (OpenSpec.ofChange fnMarginEffectGrowsWithMarginSpec)

/-- ITS FALSE NEIGHBOUR: 'it returns false'. Refute it at one input. -/
def fnMarginEffectGrowsWithMarginWrong : ChangeSpec := { name := "fnMarginEffectGrowsWithMargin", fn := fun _ => fun
  | [d1, d2, d3, d4] => { results := [.lit (.bool false)], args := [d1, d2, d3, d4] }
  | _ => none }
def FnMarginEffectGrowsWithMarginWrongFalsely : Prop := fnMarginEffectGrowsWithMarginRow.holds Try.pinned (OpenSpec.ofChange fnMarginEffectGrowsWithMarginWrong)

/-- 'zzlaws_pkg_gate_b1.FnMarginEffectZeroMarginIsZero': WHATEVER THE INPUT: true; the input reads as it did. -/
def fnMarginEffectZeroMarginIsZeroSpec : ChangeSpec := { name := "fnMarginEffectZeroMarginIsZero", fn := fun _ => fun
  | [d1, d2] => { results := [.lit (.bool true)], args := [d1, d2] }
  | _ => none }
def fnMarginEffectZeroMarginIsZeroRow : OpenClaim := { program := "qxb6602837a", sum := "e0c177a70d5446efb4f1fbe45c4a91b13ff6f0426235a25111de3967998762c9", func := "example.com/stepgate/stepgate/zzlaws_pkg_gate_b1.FnMarginEffectZeroMarginIsZero", spec := "fnMarginEffectZeroMarginIsZero", apart := false }
def FnMarginEffectZeroMarginIsZeroSaid : Prop := fnMarginEffectZeroMarginIsZeroRow.holds Try.pinned (OpenSpec.ofChange fnMarginEffectZeroMarginIsZeroSpec)

/-- ITS FALSE NEIGHBOUR: 'it returns false'. Refute it at one input. -/
def fnMarginEffectZeroMarginIsZeroWrong : ChangeSpec := { name := "fnMarginEffectZeroMarginIsZero", fn := fun _ => fun
  | [d1, d2] => { results := [.lit (.bool false)], args := [d1, d2] }
  | _ => none }
def FnMarginEffectZeroMarginIsZeroWrongFalsely : Prop := fnMarginEffectZeroMarginIsZeroRow.holds Try.pinned (OpenSpec.ofChange fnMarginEffectZeroMarginIsZeroWrong)

end Rows
end Go.Proofs.Qxb6602837a
