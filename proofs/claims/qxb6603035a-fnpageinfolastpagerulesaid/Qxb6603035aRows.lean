/-
  No cell of these rows narrows 'for every input' (looked for: loops, veiled, ifaces, maps, wideKeys, modest, calm, conditions, laid).
  DERIVED. THE GIVEN ROWS OF THIS SEAT. 2 by the template 'for every input the law returns true; each argument reads behind the call as it read before'; 0 by the template 'total and deterministic' (their statements: Qxb6603035aTotals.lean).
  GIVEN WITH THE SEED: the statements are not yours to turn. If you find one false, say at which input.
  Laid BY PROGRAM, IN A SANDBOX (cutbox-rows.mjs): the forced cells as the released guide's own fill.sh prints them over the translation cc72eba1e64c1895… (all of the seat's roots in one cut). By AI agents, Wed Nov 11 2026. No macro, syntax, notation, axiom, sorry.
-/
import Derived.Test.Qxb6603035aChecked
import GoSem.Claim
import GoSem.ClaimJoined
import GoSem.ClaimMapViews
import Derived.JoinedTies
import Derived.KernelRfl
namespace Go.Proofs.Qxb6603035a
/- THE CELL 'sum', in the pinned program and in every row, IS THE sha256 OF THE DUMP (.gsa) THAT Qxb6603035aProg.lean LOADS. Nothing in Lean hashes anything: it is a label: what it is worth is what the hold of that sum in a sandbox is worth. -/
noncomputable def Try.pinned : Pinned := { name := "qxb6603035a", sum := "cc72eba1e64c1895d5fd3c9a637d54928932381f6453e09eb3859b00a9bec522", checked := Try.checked }
namespace Rows
def none {H : Type} : Left H := { results := [], args := [] }

/-- 'zzlaws_internal_graph_b1.FnPageInfoLastPageRule': WHATEVER THE INPUT: true; the input reads as it did. -/
def fnPageInfoLastPageRuleSpec : ChangeSpec := { name := "fnPageInfoLastPageRule", fn := fun _ => fun
  | [d1, d2, d3] => { results := [.lit (.bool true)], args := [d1, d2, d3] }
  | _ => none }
def fnPageInfoLastPageRuleRow : OpenClaim := { program := "qxb6603035a", sum := "cc72eba1e64c1895d5fd3c9a637d54928932381f6453e09eb3859b00a9bec522", func := "example.com/steward/steward/zzlaws_internal_graph_b1.FnPageInfoLastPageRule", spec := "fnPageInfoLastPageRule", apart := false }
def FnPageInfoLastPageRuleSaid : Prop := fnPageInfoLastPageRuleRow.holds Try.pinned (OpenSpec.ofChange fnPageInfoLastPageRuleSpec)

/-- ITS FALSE NEIGHBOUR: 'it returns false'. Refute it at one input. -/
def fnPageInfoLastPageRuleWrong : ChangeSpec := { name := "fnPageInfoLastPageRule", fn := fun _ => fun
  | [d1, d2, d3] => { results := [.lit (.bool false)], args := [d1, d2, d3] }
  | _ => none }
def FnPageInfoLastPageRuleWrongFalsely : Prop := fnPageInfoLastPageRuleRow.holds Try.pinned (OpenSpec.ofChange fnPageInfoLastPageRuleWrong)

/-- 'zzlaws_internal_graph_b1.FnPageInfoHasNextMonotone': WHATEVER THE INPUT: true; the input reads as it did. -/
def fnPageInfoHasNextMonotoneSpec : ChangeSpec := { name := "fnPageInfoHasNextMonotone", fn := fun _ => fun
  | [d1, d2, d3, d4, d5, d6] => { results := [.lit (.bool true)], args := [d1, d2, d3, d4, d5, d6] }
  | _ => none }
def fnPageInfoHasNextMonotoneRow : OpenClaim := { program := "qxb6603035a", sum := "cc72eba1e64c1895d5fd3c9a637d54928932381f6453e09eb3859b00a9bec522", func := "example.com/steward/steward/zzlaws_internal_graph_b1.FnPageInfoHasNextMonotone", spec := "fnPageInfoHasNextMonotone", apart := false }
def FnPageInfoHasNextMonotoneSaid : Prop := fnPageInfoHasNextMonotoneRow.holds Try.pinned (OpenSpec.ofChange fnPageInfoHasNextMonotoneSpec)

/-- ITS FALSE NEIGHBOUR: 'it returns false'. Refute it at one input. -/
def fnPageInfoHasNextMonotoneWrong : ChangeSpec := { name := "fnPageInfoHasNextMonotone", fn := fun _ => fun
  | [d1, d2, d3, d4, d5, d6] => { results := [.lit (.bool false)], args := [d1, d2, d3, d4, d5, d6] }
  | _ => none }
def FnPageInfoHasNextMonotoneWrongFalsely : Prop := fnPageInfoHasNextMonotoneRow.holds Try.pinned (OpenSpec.ofChange fnPageInfoHasNextMonotoneWrong)

end Rows
end Go.Proofs.Qxb6603035a
