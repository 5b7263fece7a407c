/-
  No cell of these rows narrows 'for every input' (looked for: loops, veiled, ifaces, maps, wideKeys, modest, calm, conditions, laid).
  DERIVED. THE GIVEN ROWS OF THIS SEAT. 2 by the template 'for every input the law returns true; each argument reads behind the call as it read before'; 0 by the template 'total and deterministic' (their statements: Qxb6630620aTotals.lean).
  GIVEN WITH THE SEED: the statements are not yours to turn. If you find one false, say at which input.
  Laid BY PROGRAM, IN A SANDBOX (cutbox-rows.mjs): the forced cells as the released guide's own fill.sh prints them over the translation 1ed3e155f65a8c5c… (all of the seat's roots in one cut). By AI agents, Wed Nov 11 2026. No macro, syntax, notation, axiom, sorry.
-/
import Derived.Test.Qxb6630620aChecked
import GoSem.Claim
import GoSem.ClaimJoined
import GoSem.ClaimMapViews
import Derived.JoinedTies
import Derived.KernelRfl
namespace Go.Proofs.Qxb6630620a
/- THE CELL 'sum', in the pinned program and in every row, IS THE sha256 OF THE DUMP (.gsa) THAT Qxb6630620aProg.lean LOADS. Nothing in Lean hashes anything: it is a label: what it is worth is what the hold of that sum in a sandbox is worth. -/
noncomputable def Try.pinned : Pinned := { name := "qxb6630620a", sum := "1ed3e155f65a8c5c8caf5084f511fa8c2dfb19b3d31b25ddddc194a333737281", checked := Try.checked }
namespace Rows
def none {H : Type} : Left H := { results := [], args := [] }

/-- 'zzlaws_internal_versions_b1.FnPastHoldsExactlyTheKeysBeyond': WHATEVER THE INPUT: true; the input reads as it did. -/
def fnPastHoldsExactlyTheKeysBeyondSpec : ChangeSpec := { name := "fnPastHoldsExactlyTheKeysBeyond", fn := fun _ => fun
  | [d1, d2, d3, d4, d5, d6] => { results := [.lit (.bool true)], args := [d1, d2, d3, d4, d5, d6] }
  | _ => none }
def fnPastHoldsExactlyTheKeysBeyondRow : OpenClaim := { program := "qxb6630620a", sum := "1ed3e155f65a8c5c8caf5084f511fa8c2dfb19b3d31b25ddddc194a333737281", func := "example.com/estampille/estampille/zzlaws_internal_versions_b1.FnPastHoldsExactlyTheKeysBeyond", spec := "fnPastHoldsExactlyTheKeysBeyond", apart := false }
def FnPastHoldsExactlyTheKeysBeyondSaid : Prop := fnPastHoldsExactlyTheKeysBeyondRow.holds Try.pinned (OpenSpec.ofChange fnPastHoldsExactlyTheKeysBeyondSpec)

/-- ITS FALSE NEIGHBOUR: 'it returns false'. Refute it at one input. -/
def fnPastHoldsExactlyTheKeysBeyondWrong : ChangeSpec := { name := "fnPastHoldsExactlyTheKeysBeyond", fn := fun _ => fun
  | [d1, d2, d3, d4, d5, d6] => { results := [.lit (.bool false)], args := [d1, d2, d3, d4, d5, d6] }
  | _ => none }
def FnPastHoldsExactlyTheKeysBeyondWrongFalsely : Prop := fnPastHoldsExactlyTheKeysBeyondRow.holds Try.pinned (OpenSpec.ofChange fnPastHoldsExactlyTheKeysBeyondWrong)

/-- 'zzlaws_internal_versions_b1.FnPastTwiceIsPastTheFurther': WHATEVER THE INPUT: true; the input reads as it did. -/
def fnPastTwiceIsPastTheFurtherSpec : ChangeSpec := { name := "fnPastTwiceIsPastTheFurther", fn := fun _ => fun
  | [d1, d2, d3, d4, d5, d6, d7] => { results := [.lit (.bool true)], args := [d1, d2, d3, d4, d5, d6, d7] }
  | _ => none }
def fnPastTwiceIsPastTheFurtherRow : OpenClaim := { program := "qxb6630620a", sum := "1ed3e155f65a8c5c8caf5084f511fa8c2dfb19b3d31b25ddddc194a333737281", func := "example.com/estampille/estampille/zzlaws_internal_versions_b1.FnPastTwiceIsPastTheFurther", spec := "fnPastTwiceIsPastTheFurther", apart := false }
def FnPastTwiceIsPastTheFurtherSaid : Prop := fnPastTwiceIsPastTheFurtherRow.holds Try.pinned (OpenSpec.ofChange fnPastTwiceIsPastTheFurtherSpec)

/-- ITS FALSE NEIGHBOUR: 'it returns false'. Refute it at one input. -/
def fnPastTwiceIsPastTheFurtherWrong : ChangeSpec := { name := "fnPastTwiceIsPastTheFurther", fn := fun _ => fun
  | [d1, d2, d3, d4, d5, d6, d7] => { results := [.lit (.bool false)], args := [d1, d2, d3, d4, d5, d6, d7] }
  | _ => none }
def FnPastTwiceIsPastTheFurtherWrongFalsely : Prop := fnPastTwiceIsPastTheFurtherRow.holds Try.pinned (OpenSpec.ofChange fnPastTwiceIsPastTheFurtherWrong)

end Rows
end Go.Proofs.Qxb6630620a
