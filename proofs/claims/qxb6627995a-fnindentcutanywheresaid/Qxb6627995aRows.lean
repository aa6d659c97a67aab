/-
  No cell of these rows narrows 'for every input' (looked for: loops, veiled, ifaces, maps, wideKeys, modest, calm, conditions, laid).
  DERIVED. THE GIVEN ROWS OF THIS SEAT. 2 by the template 'for every input the law returns true; each argument reads behind the call as it read before'; 0 by the template 'total and deterministic' (their statements: Qxb6627995aTotals.lean).
  GIVEN WITH THE SEED: the statements are not yours to turn. If you find one false, say at which input.
  Laid BY PROGRAM, IN A SANDBOX (cutbox-rows.mjs): the forced cells as the released guide's own fill.sh prints them over the translation 50c312f81fc5e018… (all of the seat's roots in one cut). By AI agents, Wed Nov 11 2026. No macro, syntax, notation, axiom, sorry.
-/
import Derived.Test.Qxb6627995aChecked
import GoSem.Claim
import GoSem.ClaimJoined
import GoSem.ClaimMapViews
import Derived.JoinedTies
import Derived.KernelRfl
namespace Go.Proofs.Qxb6627995a
/- THE CELL 'sum', in the pinned program and in every row, IS THE sha256 OF THE DUMP (.gsa) THAT Qxb6627995aProg.lean LOADS. Nothing in Lean hashes anything: it is a label: what it is worth is what the hold of that sum in a sandbox is worth. -/
noncomputable def Try.pinned : Pinned := { name := "qxb6627995a", sum := "50c312f81fc5e018fce08e7478b089e04d5d6ffc028085a30c6e201f8076fb07", checked := Try.checked }
namespace Rows
def none {H : Type} : Left H := { results := [], args := [] }

/-- 'zzlaws_internal_markdown_b1.FnIndentTabStopClosedForm': WHATEVER THE INPUT: true; the input reads as it did. -/
def fnIndentTabStopClosedFormSpec : ChangeSpec := { name := "fnIndentTabStopClosedForm", fn := fun _ => fun
  | [d] => { results := [.lit (.bool true)], args := [d] }
  | _ => none }
def fnIndentTabStopClosedFormRow : OpenClaim := { program := "qxb6627995a", sum := "50c312f81fc5e018fce08e7478b089e04d5d6ffc028085a30c6e201f8076fb07", func := "example.com/trusswork/trusswork/zzlaws_internal_markdown_b1.FnIndentTabStopClosedForm", spec := "fnIndentTabStopClosedForm", apart := false }
def FnIndentTabStopClosedFormSaid : Prop := fnIndentTabStopClosedFormRow.holds Try.pinned (OpenSpec.ofChange fnIndentTabStopClosedFormSpec)

/-- ITS FALSE NEIGHBOUR: 'it returns false'. Refute it at one input. -/
def fnIndentTabStopClosedFormWrong : ChangeSpec := { name := "fnIndentTabStopClosedForm", fn := fun _ => fun
  | [d] => { results := [.lit (.bool false)], args := [d] }
  | _ => none }
def FnIndentTabStopClosedFormWrongFalsely : Prop := fnIndentTabStopClosedFormRow.holds Try.pinned (OpenSpec.ofChange fnIndentTabStopClosedFormWrong)

/-- 'zzlaws_internal_markdown_b1.FnIndentCutAnywhere': WHATEVER THE INPUT: true; the input reads as it did. -/
def fnIndentCutAnywhereSpec : ChangeSpec := { name := "fnIndentCutAnywhere", fn := fun _ => fun
  | [d1, d2] => { results := [.lit (.bool true)], args := [d1, d2] }
  | _ => none }
def fnIndentCutAnywhereRow : OpenClaim := { program := "qxb6627995a", sum := "50c312f81fc5e018fce08e7478b089e04d5d6ffc028085a30c6e201f8076fb07", func := "example.com/trusswork/trusswork/zzlaws_internal_markdown_b1.FnIndentCutAnywhere", spec := "fnIndentCutAnywhere", apart := false }
def FnIndentCutAnywhereSaid : Prop := fnIndentCutAnywhereRow.holds Try.pinned (OpenSpec.ofChange fnIndentCutAnywhereSpec)

/-- ITS FALSE NEIGHBOUR: 'it returns false'. Refute it at one input. -/
def fnIndentCutAnywhereWrong : ChangeSpec := { name := "fnIndentCutAnywhere", fn := fun _ => fun
  | [d1, d2] => { results := [.lit (.bool false)], args := [d1, d2] }
  | _ => none }
def FnIndentCutAnywhereWrongFalsely : Prop := fnIndentCutAnywhereRow.holds Try.pinned (OpenSpec.ofChange fnIndentCutAnywhereWrong)

end Rows
end Go.Proofs.Qxb6627995a
