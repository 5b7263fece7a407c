/-
  No cell of these rows narrows 'for every input' (looked for: loops, veiled, ifaces, maps, wideKeys, modest, calm, conditions, laid).
  DERIVED. THE GIVEN ROWS OF THIS SEAT. 2 by the template 'for every input the law returns true; each argument reads behind the call as it read before'; 0 by the template 'total and deterministic' (their statements: Qxb6630572aFmtTotals.lean).
  GIVEN WITH THE SEED: the statements are not yours to turn. If you find one false, say at which input.
  Laid BY PROGRAM, IN A SANDBOX (cutbox-rows.mjs): the forced cells as the released guide's own fill.sh prints them over the translation b046f7e36ca5f3fb… (all of the seat's roots in one cut). By AI agents, Wed Nov 11 2026. No macro, syntax, notation, axiom, sorry.
-/
import Derived.Test.Qxb6630572aFmtChecked
import GoSem.Claim
import GoSem.ClaimJoined
import GoSem.ClaimMapViews
import Derived.JoinedTies
import Derived.KernelRfl
namespace Go.Proofs.Qxb6630572aFmt
/- THE CELL 'sum', in the pinned program and in every row, IS THE sha256 OF THE DUMP (.gsa) THAT Qxb6630572aFmtProg.lean LOADS. Nothing in Lean hashes anything: it is a label: what it is worth is what the hold of that sum in a sandbox is worth. -/
noncomputable def Tryf.pinned : Pinned := { name := "qxb6630572afmt", sum := "b046f7e36ca5f3fb460f6ce90923a4825dcc268ae2bfd0bae007076964f2f231", checked := Tryf.checked }
namespace Rows
def none {H : Type} : Left H := { results := [], args := [] }

/-- 'zzlaws_internal_cluster_b1.FnSiteFirstMatchOverCut': WHATEVER THE INPUT: true; the input reads as it did. -/
def fnSiteFirstMatchOverCutSpec : ChangeSpec := { name := "fnSiteFirstMatchOverCut", fn := fun _ => fun
  | [d1, d2, d3] => { results := [.lit (.bool true)], args := [d1, d2, d3] }
  | _ => none }
def fnSiteFirstMatchOverCutRow : OpenClaim := { program := "qxb6630572afmt", sum := "b046f7e36ca5f3fb460f6ce90923a4825dcc268ae2bfd0bae007076964f2f231", func := "example.com/quorumboard/quorumboard/zzlaws_internal_cluster_b1.FnSiteFirstMatchOverCut", spec := "fnSiteFirstMatchOverCut", stops := ["fmt.errorf"], inPlace := ["fmt.errorf"], apart := false }
/-- NO THEOREM (fmt's text is open here; it may be false): for the released tool's asking of the row's closed facts alone. THE STATEMENT IS 'FnSiteFirstMatchOverCutToldSaid' (Qxb6630572aFmtCards.lean). -/
def FnSiteFirstMatchOverCutFormAsk : Prop := fnSiteFirstMatchOverCutRow.holds Tryf.pinned (OpenSpec.ofChange fnSiteFirstMatchOverCutSpec)

/-- ITS FALSE NEIGHBOUR: 'it returns false'. Refute it at one input. -/
def fnSiteFirstMatchOverCutWrong : ChangeSpec := { name := "fnSiteFirstMatchOverCut", fn := fun _ => fun
  | [d1, d2, d3] => { results := [.lit (.bool false)], args := [d1, d2, d3] }
  | _ => none }
def FnSiteFirstMatchOverCutWrongFormAsk : Prop := fnSiteFirstMatchOverCutRow.holds Tryf.pinned (OpenSpec.ofChange fnSiteFirstMatchOverCutWrong)

/-- 'zzlaws_internal_cluster_b1.FnSiteInsertOne': WHATEVER THE INPUT: true; the input reads as it did. -/
def fnSiteInsertOneSpec : ChangeSpec := { name := "fnSiteInsertOne", fn := fun _ => fun
  | [d1, d2, d3, d4] => { results := [.lit (.bool true)], args := [d1, d2, d3, d4] }
  | _ => none }
def fnSiteInsertOneRow : OpenClaim := { program := "qxb6630572afmt", sum := "b046f7e36ca5f3fb460f6ce90923a4825dcc268ae2bfd0bae007076964f2f231", func := "example.com/quorumboard/quorumboard/zzlaws_internal_cluster_b1.FnSiteInsertOne", spec := "fnSiteInsertOne", stops := ["fmt.errorf"], inPlace := ["fmt.errorf"], apart := false }
/-- NO THEOREM (fmt's text is open here; it may be false): for the released tool's asking of the row's closed facts alone. THE STATEMENT IS 'FnSiteInsertOneToldSaid' (Qxb6630572aFmtCards.lean). -/
def FnSiteInsertOneFormAsk : Prop := fnSiteInsertOneRow.holds Tryf.pinned (OpenSpec.ofChange fnSiteInsertOneSpec)

/-- ITS FALSE NEIGHBOUR: 'it returns false'. Refute it at one input. -/
def fnSiteInsertOneWrong : ChangeSpec := { name := "fnSiteInsertOne", fn := fun _ => fun
  | [d1, d2, d3, d4] => { results := [.lit (.bool false)], args := [d1, d2, d3, d4] }
  | _ => none }
def FnSiteInsertOneWrongFormAsk : Prop := fnSiteInsertOneRow.holds Tryf.pinned (OpenSpec.ofChange fnSiteInsertOneWrong)

end Rows
end Go.Proofs.Qxb6630572aFmt
