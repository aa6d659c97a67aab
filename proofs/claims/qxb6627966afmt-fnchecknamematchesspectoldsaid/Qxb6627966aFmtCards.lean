/-
  DERIVED. GIVEN WITH THE SEED: THE CARDS: each row of Qxb6627966aFmtRows.lean that lists a variable, with what it lists TIED to the program's text (the seventh form; the later family's looks); each row that meets fmt, with fmt's text TOLD by the authors' own Lean function (tested against real Go, not proved from fmt's source: count such statements apart). THE CARD IS WHAT COUNTS. Prove the row's statement (the work); the ties are given (Qxb6627966aFmtTie.lean); close each card by the builder's one call (the guide's Derived/Test/ToyasCard.lean, 'card_holds'). Laid BY PROGRAM, IN A SANDBOX (cutbox-door.mjs). By AI agents, Wed Nov 11 2026. No macro, syntax, notation, axiom, sorry.
-/
import Derived.Test.Qxb6627966aFmtRows
import GoSem.ClaimSeven
namespace Go.Proofs.Qxb6627966aFmt
namespace Rows

/-- THE TOLD CARD OF 'zzlaws_internal_pkgfile_b1.FnCheckNameMatchesSpec'. -/
def fnCheckNameMatchesSpecCard : Claim7 := { stood := { row := fnCheckNameMatchesSpecRow, standIns := [], harness := (true, "fe078c3e255ef054faa95db3202a96a77067912beceab663f9a9086c0e28b5ec"), looks := false }, told := true, goes := false }
def FnCheckNameMatchesSpecToldSaid : Prop := Claim7.holds Tryf.pinned (.plain (OpenSpec.ofChange fnCheckNameMatchesSpecSpec)) fnCheckNameMatchesSpecCard
/-- ITS FALSE NEIGHBOUR. Refute it at one input. -/
def FnCheckNameMatchesSpecToldWrongFalsely : Prop := Claim7.holds Tryf.pinned (.plain (OpenSpec.ofChange fnCheckNameMatchesSpecWrong)) fnCheckNameMatchesSpecCard

/-- THE TOLD CARD OF 'zzlaws_internal_pkgfile_b1.FnCheckNameSplitsAtAnyCut'. -/
def fnCheckNameSplitsAtAnyCutCard : Claim7 := { stood := { row := fnCheckNameSplitsAtAnyCutRow, standIns := [], harness := (true, "fe078c3e255ef054faa95db3202a96a77067912beceab663f9a9086c0e28b5ec"), looks := false }, told := true, goes := false }
def FnCheckNameSplitsAtAnyCutToldSaid : Prop := Claim7.holds Tryf.pinned (.plain (OpenSpec.ofChange fnCheckNameSplitsAtAnyCutSpec)) fnCheckNameSplitsAtAnyCutCard
/-- ITS FALSE NEIGHBOUR. Refute it at one input. -/
def FnCheckNameSplitsAtAnyCutToldWrongFalsely : Prop := Claim7.holds Tryf.pinned (.plain (OpenSpec.ofChange fnCheckNameSplitsAtAnyCutWrong)) fnCheckNameSplitsAtAnyCutCard
end Rows
end Go.Proofs.Qxb6627966aFmt
