/-
  DERIVED. GIVEN WITH THE SEED: THE CARDS: each row of Qxb6630572aFmtRows.lean that lists a variable, with what it lists TIED to the program's text (the seventh form; the later family's looks); each row that meets fmt, with fmt's text TOLD by the authors' own Lean function (tested against real Go, not proved from fmt's source: count such statements apart). THE CARD IS WHAT COUNTS. Prove the row's statement (the work); the ties are given (Qxb6630572aFmtTie.lean); close each card by the builder's one call (the guide's Derived/Test/ToyasCard.lean, 'card_holds'). Laid BY PROGRAM, IN A SANDBOX (cutbox-door.mjs). By AI agents, Wed Nov 11 2026. No macro, syntax, notation, axiom, sorry.
-/
import Derived.Test.Qxb6630572aFmtRows
import GoSem.ClaimSeven
namespace Go.Proofs.Qxb6630572aFmt
namespace Rows

/-- THE TOLD CARD OF 'zzlaws_internal_cluster_b1.FnSiteFirstMatchOverCut'. -/
def fnSiteFirstMatchOverCutCard : Claim7 := { stood := { row := fnSiteFirstMatchOverCutRow, standIns := [], harness := (true, "fbf327c277a14ea1b16f5f298965906c6901cfc30839471af0df93585b2b47d9"), looks := false }, told := true, goes := false }
def FnSiteFirstMatchOverCutToldSaid : Prop := Claim7.holds Tryf.pinned (.plain (OpenSpec.ofChange fnSiteFirstMatchOverCutSpec)) fnSiteFirstMatchOverCutCard
/-- ITS FALSE NEIGHBOUR. Refute it at one input. -/
def FnSiteFirstMatchOverCutToldWrongFalsely : Prop := Claim7.holds Tryf.pinned (.plain (OpenSpec.ofChange fnSiteFirstMatchOverCutWrong)) fnSiteFirstMatchOverCutCard

/-- THE TOLD CARD OF 'zzlaws_internal_cluster_b1.FnSiteInsertOne'. -/
def fnSiteInsertOneCard : Claim7 := { stood := { row := fnSiteInsertOneRow, standIns := [], harness := (true, "fbf327c277a14ea1b16f5f298965906c6901cfc30839471af0df93585b2b47d9"), looks := false }, told := true, goes := false }
def FnSiteInsertOneToldSaid : Prop := Claim7.holds Tryf.pinned (.plain (OpenSpec.ofChange fnSiteInsertOneSpec)) fnSiteInsertOneCard
/-- ITS FALSE NEIGHBOUR. Refute it at one input. -/
def FnSiteInsertOneToldWrongFalsely : Prop := Claim7.holds Tryf.pinned (.plain (OpenSpec.ofChange fnSiteInsertOneWrong)) fnSiteInsertOneCard
end Rows
end Go.Proofs.Qxb6630572aFmt
