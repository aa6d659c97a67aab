/-
  No cell of these rows narrows 'for every input' (looked for: loops, veiled, ifaces, maps, wideKeys, modest, calm, conditions, laid).
  DERIVED. THE GIVEN ROWS OF THIS SEAT. 2 by the template 'for every input the law returns true; each argument reads behind the call as it read before'; 0 by the template 'total and deterministic' (their statements: Qxb6627966aFmtTotals.lean).
  GIVEN WITH THE SEED: the statements are not yours to turn. If you find one false, say at which input.
  Laid BY PROGRAM, IN A SANDBOX (cutbox-rows.mjs): the forced cells as the released guide's own fill.sh prints them over the translation 97ec20bd3a6f5594… (all of the seat's roots in one cut). By AI agents, Wed Nov 11 2026. No macro, syntax, notation, axiom, sorry.
-/
import Derived.Test.Qxb6627966aFmtChecked
import GoSem.Claim
import GoSem.ClaimJoined
import GoSem.ClaimMapViews
import Derived.JoinedTies
import Derived.KernelRfl
namespace Go.Proofs.Qxb6627966aFmt
/- THE CELL 'sum', in the pinned program and in every row, IS THE sha256 OF THE DUMP (.gsa) THAT Qxb6627966aFmtProg.lean LOADS. Nothing in Lean hashes anything: it is a label: what it is worth is what the hold of that sum in a sandbox is worth. -/
noncomputable def Tryf.pinned : Pinned := { name := "qxb6627966afmt", sum := "97ec20bd3a6f5594cf5c635c8a0bd3ecf1bc074e4a0648959aab5b1d006223af", checked := Tryf.checked }
namespace Rows
def none {H : Type} : Left H := { results := [], args := [] }

/-- 'zzlaws_internal_pkgfile_b1.FnCheckNameMatchesSpec': WHATEVER THE INPUT: true; the input reads as it did. -/
def fnCheckNameMatchesSpecSpec : ChangeSpec := { name := "fnCheckNameMatchesSpec", fn := fun _ => fun
  | [d] => { results := [.lit (.bool true)], args := [d] }
  | _ => none }
def fnCheckNameMatchesSpecRow : OpenClaim := { program := "qxb6627966afmt", sum := "97ec20bd3a6f5594cf5c635c8a0bd3ecf1bc074e4a0648959aab5b1d006223af", func := "example.com/torrentry/torrentry/zzlaws_internal_pkgfile_b1.FnCheckNameMatchesSpec", spec := "fnCheckNameMatchesSpec", stops := ["fmt.errorf"], inPlace := ["fmt.errorf"], apart := false }
/-- NO THEOREM (fmt's text is open here; it may be false): for the released tool's asking of the row's closed facts alone. THE STATEMENT IS 'FnCheckNameMatchesSpecToldSaid' (Qxb6627966aFmtCards.lean). -/
def FnCheckNameMatchesSpecFormAsk : Prop := fnCheckNameMatchesSpecRow.holds Tryf.pinned (OpenSpec.ofChange fnCheckNameMatchesSpecSpec)

/-- ITS FALSE NEIGHBOUR: 'it returns false'. Refute it at one input. -/
def fnCheckNameMatchesSpecWrong : ChangeSpec := { name := "fnCheckNameMatchesSpec", fn := fun _ => fun
  | [d] => { results := [.lit (.bool false)], args := [d] }
  | _ => none }
def FnCheckNameMatchesSpecWrongFormAsk : Prop := fnCheckNameMatchesSpecRow.holds Tryf.pinned (OpenSpec.ofChange fnCheckNameMatchesSpecWrong)

/-- 'zzlaws_internal_pkgfile_b1.FnCheckNameSplitsAtAnyCut': WHATEVER THE INPUT: true; the input reads as it did. -/
def fnCheckNameSplitsAtAnyCutSpec : ChangeSpec := { name := "fnCheckNameSplitsAtAnyCut", fn := fun _ => fun
  | [d1, d2] => { results := [.lit (.bool true)], args := [d1, d2] }
  | _ => none }
def fnCheckNameSplitsAtAnyCutRow : OpenClaim := { program := "qxb6627966afmt", sum := "97ec20bd3a6f5594cf5c635c8a0bd3ecf1bc074e4a0648959aab5b1d006223af", func := "example.com/torrentry/torrentry/zzlaws_internal_pkgfile_b1.FnCheckNameSplitsAtAnyCut", spec := "fnCheckNameSplitsAtAnyCut", stops := ["fmt.errorf"], inPlace := ["fmt.errorf"], apart := false }
/-- NO THEOREM (fmt's text is open here; it may be false): for the released tool's asking of the row's closed facts alone. THE STATEMENT IS 'FnCheckNameSplitsAtAnyCutToldSaid' (Qxb6627966aFmtCards.lean). -/
def FnCheckNameSplitsAtAnyCutFormAsk : Prop := fnCheckNameSplitsAtAnyCutRow.holds Tryf.pinned (OpenSpec.ofChange fnCheckNameSplitsAtAnyCutSpec)

/-- ITS FALSE NEIGHBOUR: 'it returns false'. Refute it at one input. -/
def fnCheckNameSplitsAtAnyCutWrong : ChangeSpec := { name := "fnCheckNameSplitsAtAnyCut", fn := fun _ => fun
  | [d1, d2] => { results := [.lit (.bool false)], args := [d1, d2] }
  | _ => none }
def FnCheckNameSplitsAtAnyCutWrongFormAsk : Prop := fnCheckNameSplitsAtAnyCutRow.holds Tryf.pinned (OpenSpec.ofChange fnCheckNameSplitsAtAnyCutWrong)

end Rows
end Go.Proofs.Qxb6627966aFmt
