/-
  No cell of these rows narrows 'for every input' (looked for: loops, veiled, ifaces, maps, wideKeys, modest, calm, conditions, laid).
  DERIVED. THE GIVEN ROWS OF THIS SEAT. 2 by the template 'for every input the law returns true; each argument reads behind the call as it read before'; 0 by the template 'total and deterministic' (their statements: Qxb6634852aTotals.lean).
  GIVEN WITH THE SEED: the statements are not yours to turn. If you find one false, say at which input.
  Laid BY PROGRAM, IN A SANDBOX (cutbox-rows.mjs): the forced cells as the released guide's own fill.sh prints them over the translation dc86c888c900dd5f… (all of the seat's roots in one cut). By AI agents, Wed Nov 11 2026. No macro, syntax, notation, axiom, sorry.
-/
import Derived.Test.Qxb6634852aChecked
import GoSem.Claim
import GoSem.ClaimJoined
import GoSem.ClaimMapViews
import Derived.JoinedTies
import Derived.KernelRfl
namespace Go.Proofs.Qxb6634852a
/- THE CELL 'sum', in the pinned program and in every row, IS THE sha256 OF THE DUMP (.gsa) THAT Qxb6634852aProg.lean LOADS. Nothing in Lean hashes anything: it is a label: what it is worth is what the hold of that sum in a sandbox is worth. -/
noncomputable def Try.pinned : Pinned := { name := "qxb6634852a", sum := "dc86c888c900dd5ff907555f23761997235c54b034048d87fd211f0b8bab03e4", checked := Try.checked }
namespace Rows
def none {H : Type} : Left H := { results := [], args := [] }

/-- 'zzlaws_reconcile_b1.FnMatchSplitsAtAnyCut': WHATEVER THE INPUT: true; the input reads as it did. -/
def fnMatchSplitsAtAnyCutSpec : ChangeSpec := { name := "fnMatchSplitsAtAnyCut", fn := fun _ => fun
  | [d1, d2] => { results := [.lit (.bool true)], args := [d1, d2] }
  | _ => none }
def fnMatchSplitsAtAnyCutRow : OpenClaim := { program := "qxb6634852a", sum := "dc86c888c900dd5ff907555f23761997235c54b034048d87fd211f0b8bab03e4", func := "example.com/tuoguan/tuoguan/zzlaws_reconcile_b1.FnMatchSplitsAtAnyCut", spec := "fnMatchSplitsAtAnyCut", apart := false }
def FnMatchSplitsAtAnyCutSaid : Prop := fnMatchSplitsAtAnyCutRow.holds Try.pinned (OpenSpec.ofChange fnMatchSplitsAtAnyCutSpec)

/-- ITS FALSE NEIGHBOUR: 'it returns false'. Refute it at one input. -/
def fnMatchSplitsAtAnyCutWrong : ChangeSpec := { name := "fnMatchSplitsAtAnyCut", fn := fun _ => fun
  | [d1, d2] => { results := [.lit (.bool false)], args := [d1, d2] }
  | _ => none }
def FnMatchSplitsAtAnyCutWrongFalsely : Prop := fnMatchSplitsAtAnyCutRow.holds Try.pinned (OpenSpec.ofChange fnMatchSplitsAtAnyCutWrong)

/-- 'zzlaws_reconcile_b1.FnMatchOneClassInsertedAnywhere': WHATEVER THE INPUT: true; the input reads as it did. -/
def fnMatchOneClassInsertedAnywhereSpec : ChangeSpec := { name := "fnMatchOneClassInsertedAnywhere", fn := fun _ => fun
  | [d1, d2, d3] => { results := [.lit (.bool true)], args := [d1, d2, d3] }
  | _ => none }
def fnMatchOneClassInsertedAnywhereRow : OpenClaim := { program := "qxb6634852a", sum := "dc86c888c900dd5ff907555f23761997235c54b034048d87fd211f0b8bab03e4", func := "example.com/tuoguan/tuoguan/zzlaws_reconcile_b1.FnMatchOneClassInsertedAnywhere", spec := "fnMatchOneClassInsertedAnywhere", apart := false }
def FnMatchOneClassInsertedAnywhereSaid : Prop := fnMatchOneClassInsertedAnywhereRow.holds Try.pinned (OpenSpec.ofChange fnMatchOneClassInsertedAnywhereSpec)

/-- ITS FALSE NEIGHBOUR: 'it returns false'. Refute it at one input. -/
def fnMatchOneClassInsertedAnywhereWrong : ChangeSpec := { name := "fnMatchOneClassInsertedAnywhere", fn := fun _ => fun
  | [d1, d2, d3] => { results := [.lit (.bool false)], args := [d1, d2, d3] }
  | _ => none }
def FnMatchOneClassInsertedAnywhereWrongFalsely : Prop := fnMatchOneClassInsertedAnywhereRow.holds Try.pinned (OpenSpec.ofChange fnMatchOneClassInsertedAnywhereWrong)

end Rows
end Go.Proofs.Qxb6634852a
