/-
  No cell of these rows narrows 'for every input' (looked for: loops, veiled, ifaces, maps, wideKeys, modest, calm, conditions, laid).
  DERIVED. THE GIVEN ROWS OF THIS SEAT. 2 by the template 'for every input the law returns true; each argument reads behind the call as it read before'; 0 by the template 'total and deterministic' (their statements: Qxb6628709aTotals.lean).
  GIVEN WITH THE SEED: the statements are not yours to turn. If you find one false, say at which input.
  Laid BY PROGRAM, IN A SANDBOX (cutbox-rows.mjs): the forced cells as the released guide's own fill.sh prints them over the translation 92cbef94489f7178… (all of the seat's roots in one cut). By AI agents, Wed Nov 11 2026. No macro, syntax, notation, axiom, sorry.
-/
import Derived.Test.Qxb6628709aChecked
import GoSem.Claim
import GoSem.ClaimJoined
import GoSem.ClaimMapViews
import Derived.JoinedTies
import Derived.KernelRfl
namespace Go.Proofs.Qxb6628709a
/- THE CELL 'sum', in the pinned program and in every row, IS THE sha256 OF THE DUMP (.gsa) THAT Qxb6628709aProg.lean LOADS. Nothing in Lean hashes anything: it is a label: what it is worth is what the hold of that sum in a sandbox is worth. -/
noncomputable def Try.pinned : Pinned := { name := "qxb6628709a", sum := "92cbef94489f7178849864ec5cf865c1e92e9b0c8a32bbf8651b6fe70bf4b8fc", checked := Try.checked }
namespace Rows
def none {H : Type} : Left H := { results := [], args := [] }

/-- 'zzlaws_yamlvalue_b1.FnKindJoinedIsKindOfLeadingPart': WHATEVER THE INPUT: true; the input reads as it did. -/
def fnKindJoinedIsKindOfLeadingPartSpec : ChangeSpec := { name := "fnKindJoinedIsKindOfLeadingPart", fn := fun _ => fun
  | [d1, d2] => { results := [.lit (.bool true)], args := [d1, d2] }
  | _ => none }
def fnKindJoinedIsKindOfLeadingPartRow : OpenClaim := { program := "qxb6628709a", sum := "92cbef94489f7178849864ec5cf865c1e92e9b0c8a32bbf8651b6fe70bf4b8fc", func := "example.com/charthouse/charthouse/zzlaws_yamlvalue_b1.FnKindJoinedIsKindOfLeadingPart", spec := "fnKindJoinedIsKindOfLeadingPart", apart := false }
def FnKindJoinedIsKindOfLeadingPartSaid : Prop := fnKindJoinedIsKindOfLeadingPartRow.holds Try.pinned (OpenSpec.ofChange fnKindJoinedIsKindOfLeadingPartSpec)

/-- ITS FALSE NEIGHBOUR: 'it returns false'. Refute it at one input. -/
def fnKindJoinedIsKindOfLeadingPartWrong : ChangeSpec := { name := "fnKindJoinedIsKindOfLeadingPart", fn := fun _ => fun
  | [d1, d2] => { results := [.lit (.bool false)], args := [d1, d2] }
  | _ => none }
def FnKindJoinedIsKindOfLeadingPartWrongFalsely : Prop := fnKindJoinedIsKindOfLeadingPartRow.holds Try.pinned (OpenSpec.ofChange fnKindJoinedIsKindOfLeadingPartWrong)

/-- 'zzlaws_yamlvalue_b1.FnKindPartitionsLeadingBytesWithBool': WHATEVER THE INPUT: true; the input reads as it did. -/
def fnKindPartitionsLeadingBytesWithBoolSpec : ChangeSpec := { name := "fnKindPartitionsLeadingBytesWithBool", fn := fun _ => fun
  | [d] => { results := [.lit (.bool true)], args := [d] }
  | _ => none }
def fnKindPartitionsLeadingBytesWithBoolRow : OpenClaim := { program := "qxb6628709a", sum := "92cbef94489f7178849864ec5cf865c1e92e9b0c8a32bbf8651b6fe70bf4b8fc", func := "example.com/charthouse/charthouse/zzlaws_yamlvalue_b1.FnKindPartitionsLeadingBytesWithBool", spec := "fnKindPartitionsLeadingBytesWithBool", apart := false }
def FnKindPartitionsLeadingBytesWithBoolSaid : Prop := fnKindPartitionsLeadingBytesWithBoolRow.holds Try.pinned (OpenSpec.ofChange fnKindPartitionsLeadingBytesWithBoolSpec)

/-- ITS FALSE NEIGHBOUR: 'it returns false'. Refute it at one input. -/
def fnKindPartitionsLeadingBytesWithBoolWrong : ChangeSpec := { name := "fnKindPartitionsLeadingBytesWithBool", fn := fun _ => fun
  | [d] => { results := [.lit (.bool false)], args := [d] }
  | _ => none }
def FnKindPartitionsLeadingBytesWithBoolWrongFalsely : Prop := fnKindPartitionsLeadingBytesWithBoolRow.holds Try.pinned (OpenSpec.ofChange fnKindPartitionsLeadingBytesWithBoolWrong)

end Rows
end Go.Proofs.Qxb6628709a
