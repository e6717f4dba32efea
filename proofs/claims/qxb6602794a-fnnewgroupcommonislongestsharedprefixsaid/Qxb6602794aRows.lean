/-
  No cell of these rows narrows 'for every input' (looked for: loops, veiled, ifaces, maps, wideKeys, modest, calm, conditions, laid).
  DERIVED. THE GIVEN ROWS OF THIS SEAT. 3 by the template 'for every input the law returns true; each argument reads behind the call as it read before'; 0 by the template 'total and deterministic' (their statements: Qxb6602794aTotals.lean).
  GIVEN WITH THE SEED: the statements are not yours to turn. If you find one false, say at which input.
  Laid BY PROGRAM, IN A SANDBOX (cutbox-rows.mjs): the forced cells as the released guide's own fill.sh prints them over the translation 116b67cbecc38b14… (all of the seat's roots in one cut). By AI agents, Wed Nov 11 2026. No macro, syntax, notation, axiom, sorry.
-/
import Derived.Test.Qxb6602794aChecked
import GoSem.Claim
import GoSem.ClaimJoined
import GoSem.ClaimMapViews
import Derived.JoinedTies
import Derived.KernelRfl
namespace Go.Proofs.Qxb6602794a
/- THE CELL 'sum', in the pinned program and in every row, IS THE sha256 OF THE DUMP (.gsa) THAT Qxb6602794aProg.lean LOADS. Nothing in Lean hashes anything: it is a label: what it is worth is what the hold of that sum in a sandbox is worth. -/
noncomputable def Try.pinned : Pinned := { name := "qxb6602794a", sum := "116b67cbecc38b141524b102ce0b53f447a36408a098419d6b3a99e9608b245d", checked := Try.checked }
namespace Rows
def none {H : Type} : Left H := { results := [], args := [] }

/-- 'zzlaws_internal_goface_b1.FnNewGroupCommonIsLongestSharedPrefix': WHATEVER THE INPUT: true; the input reads as it did. -/
def fnNewGroupCommonIsLongestSharedPrefixSpec : ChangeSpec := { name := "fnNewGroupCommonIsLongestSharedPrefix", fn := fun _ => fun
  | [d1, d2, d3] => { results := [.lit (.bool true)], args := [d1, d2, d3] }
  | _ => none }
def fnNewGroupCommonIsLongestSharedPrefixRow : OpenClaim := { program := "qxb6602794a", sum := "116b67cbecc38b141524b102ce0b53f447a36408a098419d6b3a99e9608b245d", func := "example.com/glazebar/glazebar/zzlaws_internal_goface_b1.FnNewGroupCommonIsLongestSharedPrefix", spec := "fnNewGroupCommonIsLongestSharedPrefix", apart := false }
def FnNewGroupCommonIsLongestSharedPrefixSaid : Prop := fnNewGroupCommonIsLongestSharedPrefixRow.holds Try.pinned (OpenSpec.ofChange fnNewGroupCommonIsLongestSharedPrefixSpec)

/-- ITS FALSE NEIGHBOUR: 'it returns false'. Refute it at one input. -/
def fnNewGroupCommonIsLongestSharedPrefixWrong : ChangeSpec := { name := "fnNewGroupCommonIsLongestSharedPrefix", fn := fun _ => fun
  | [d1, d2, d3] => { results := [.lit (.bool false)], args := [d1, d2, d3] }
  | _ => none }
def FnNewGroupCommonIsLongestSharedPrefixWrongFalsely : Prop := fnNewGroupCommonIsLongestSharedPrefixRow.holds Try.pinned (OpenSpec.ofChange fnNewGroupCommonIsLongestSharedPrefixWrong)

/-- 'zzlaws_internal_goface_b1.FnNewGroupCommonIgnoresOrderOfForms': WHATEVER THE INPUT: true; the input reads as it did. -/
def fnNewGroupCommonIgnoresOrderOfFormsSpec : ChangeSpec := { name := "fnNewGroupCommonIgnoresOrderOfForms", fn := fun _ => fun
  | [d1, d2, d3] => { results := [.lit (.bool true)], args := [d1, d2, d3] }
  | _ => none }
def fnNewGroupCommonIgnoresOrderOfFormsRow : OpenClaim := { program := "qxb6602794a", sum := "116b67cbecc38b141524b102ce0b53f447a36408a098419d6b3a99e9608b245d", func := "example.com/glazebar/glazebar/zzlaws_internal_goface_b1.FnNewGroupCommonIgnoresOrderOfForms", spec := "fnNewGroupCommonIgnoresOrderOfForms", apart := false }
def FnNewGroupCommonIgnoresOrderOfFormsSaid : Prop := fnNewGroupCommonIgnoresOrderOfFormsRow.holds Try.pinned (OpenSpec.ofChange fnNewGroupCommonIgnoresOrderOfFormsSpec)

/-- ITS FALSE NEIGHBOUR: 'it returns false'. Refute it at one input. -/
def fnNewGroupCommonIgnoresOrderOfFormsWrong : ChangeSpec := { name := "fnNewGroupCommonIgnoresOrderOfForms", fn := fun _ => fun
  | [d1, d2, d3] => { results := [.lit (.bool false)], args := [d1, d2, d3] }
  | _ => none }
def FnNewGroupCommonIgnoresOrderOfFormsWrongFalsely : Prop := fnNewGroupCommonIgnoresOrderOfFormsRow.holds Try.pinned (OpenSpec.ofChange fnNewGroupCommonIgnoresOrderOfFormsWrong)

/-- 'zzlaws_internal_goface_b1.FnNewGroupAnotherFormNeverLengthensCommon': WHATEVER THE INPUT: true; the input reads as it did. -/
def fnNewGroupAnotherFormNeverLengthensCommonSpec : ChangeSpec := { name := "fnNewGroupAnotherFormNeverLengthensCommon", fn := fun _ => fun
  | [d1, d2, d3, d4] => { results := [.lit (.bool true)], args := [d1, d2, d3, d4] }
  | _ => none }
def fnNewGroupAnotherFormNeverLengthensCommonRow : OpenClaim := { program := "qxb6602794a", sum := "116b67cbecc38b141524b102ce0b53f447a36408a098419d6b3a99e9608b245d", func := "example.com/glazebar/glazebar/zzlaws_internal_goface_b1.FnNewGroupAnotherFormNeverLengthensCommon", spec := "fnNewGroupAnotherFormNeverLengthensCommon", apart := false }
def FnNewGroupAnotherFormNeverLengthensCommonSaid : Prop := fnNewGroupAnotherFormNeverLengthensCommonRow.holds Try.pinned (OpenSpec.ofChange fnNewGroupAnotherFormNeverLengthensCommonSpec)

/-- ITS FALSE NEIGHBOUR: 'it returns false'. Refute it at one input. -/
def fnNewGroupAnotherFormNeverLengthensCommonWrong : ChangeSpec := { name := "fnNewGroupAnotherFormNeverLengthensCommon", fn := fun _ => fun
  | [d1, d2, d3, d4] => { results := [.lit (.bool false)], args := [d1, d2, d3, d4] }
  | _ => none }
def FnNewGroupAnotherFormNeverLengthensCommonWrongFalsely : Prop := fnNewGroupAnotherFormNeverLengthensCommonRow.holds Try.pinned (OpenSpec.ofChange fnNewGroupAnotherFormNeverLengthensCommonWrong)

end Rows
end Go.Proofs.Qxb6602794a
