/-
  No cell of these rows narrows 'for every input' (looked for: loops, veiled, ifaces, maps, wideKeys, modest, calm, conditions, laid).
  DERIVED. THE GIVEN ROWS OF THIS SEAT. 2 by the template 'for every input the law returns true; each argument reads behind the call as it read before'; 0 by the template 'total and deterministic' (their statements: Qxb6627932aTotals.lean).
  GIVEN WITH THE SEED: the statements are not yours to turn. If you find one false, say at which input.
  Laid BY PROGRAM, IN A SANDBOX (cutbox-rows.mjs): the forced cells as the released guide's own fill.sh prints them over the translation 1cb4fbfad5d1e6c6… (all of the seat's roots in one cut). By AI agents, Wed Nov 11 2026. No macro, syntax, notation, axiom, sorry.
-/
import Derived.Test.Qxb6627932aChecked
import GoSem.Claim
import GoSem.ClaimJoined
import GoSem.ClaimMapViews
import Derived.JoinedTies
import Derived.KernelRfl
namespace Go.Proofs.Qxb6627932a
/- THE CELL 'sum', in the pinned program and in every row, IS THE sha256 OF THE DUMP (.gsa) THAT Qxb6627932aProg.lean LOADS. Nothing in Lean hashes anything: it is a label: what it is worth is what the hold of that sum in a sandbox is worth. -/
noncomputable def Try.pinned : Pinned := { name := "qxb6627932a", sum := "1cb4fbfad5d1e6c61556dbd3e1a5b80a41256b115d633c30cc349602ddb4a1a9", checked := Try.checked }
namespace Rows
def none {H : Type} : Left H := { results := [], args := [] }

/-- 'zzlaws_root_b1.FnDefaultTermsFreshEveryCall': WHATEVER THE INPUT: true; the input reads as it did. -/
def fnDefaultTermsFreshEveryCallSpec : ChangeSpec := { name := "fnDefaultTermsFreshEveryCall", fn := fun _ => fun
  | [] => { results := [.lit (.bool true)], args := [] }
  | _ => none }
def fnDefaultTermsFreshEveryCallRow : OpenClaim := { program := "qxb6627932a", sum := "1cb4fbfad5d1e6c61556dbd3e1a5b80a41256b115d633c30cc349602ddb4a1a9", func := "example.com/navfold/navfold/zzlaws_root_b1.FnDefaultTermsFreshEveryCall", spec := "fnDefaultTermsFreshEveryCall", apart := false }
def FnDefaultTermsFreshEveryCallSaid : Prop := fnDefaultTermsFreshEveryCallRow.holds Try.pinned (OpenSpec.ofChange fnDefaultTermsFreshEveryCallSpec)

/-- ITS FALSE NEIGHBOUR: 'it returns false'. Refute it at one input. -/
def fnDefaultTermsFreshEveryCallWrong : ChangeSpec := { name := "fnDefaultTermsFreshEveryCall", fn := fun _ => fun
  | [] => { results := [.lit (.bool false)], args := [] }
  | _ => none }
def FnDefaultTermsFreshEveryCallWrongFalsely : Prop := fnDefaultTermsFreshEveryCallRow.holds Try.pinned (OpenSpec.ofChange fnDefaultTermsFreshEveryCallWrong)

/-- 'zzlaws_root_b1.FnDefaultTermsWithinDocumentedDomain': WHATEVER THE INPUT: true; the input reads as it did. -/
def fnDefaultTermsWithinDocumentedDomainSpec : ChangeSpec := { name := "fnDefaultTermsWithinDocumentedDomain", fn := fun _ => fun
  | [] => { results := [.lit (.bool true)], args := [] }
  | _ => none }
def fnDefaultTermsWithinDocumentedDomainRow : OpenClaim := { program := "qxb6627932a", sum := "1cb4fbfad5d1e6c61556dbd3e1a5b80a41256b115d633c30cc349602ddb4a1a9", func := "example.com/navfold/navfold/zzlaws_root_b1.FnDefaultTermsWithinDocumentedDomain", spec := "fnDefaultTermsWithinDocumentedDomain", apart := false }
def FnDefaultTermsWithinDocumentedDomainSaid : Prop := fnDefaultTermsWithinDocumentedDomainRow.holds Try.pinned (OpenSpec.ofChange fnDefaultTermsWithinDocumentedDomainSpec)

/-- ITS FALSE NEIGHBOUR: 'it returns false'. Refute it at one input. -/
def fnDefaultTermsWithinDocumentedDomainWrong : ChangeSpec := { name := "fnDefaultTermsWithinDocumentedDomain", fn := fun _ => fun
  | [] => { results := [.lit (.bool false)], args := [] }
  | _ => none }
def FnDefaultTermsWithinDocumentedDomainWrongFalsely : Prop := fnDefaultTermsWithinDocumentedDomainRow.holds Try.pinned (OpenSpec.ofChange fnDefaultTermsWithinDocumentedDomainWrong)

end Rows
end Go.Proofs.Qxb6627932a
