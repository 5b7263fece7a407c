/-
  DERIVED. GIVEN WITH THE SEED: THE CARDS: each row of Qxb6630533aDoorRows.lean that lists a variable, with what it lists TIED to the program's text (the seventh form; the later family's looks); each row that meets fmt, with fmt's text TOLD by the authors' own Lean function (tested against real Go, not proved from fmt's source: count such statements apart). THE CARD IS WHAT COUNTS. Prove the row's statement (the work); the ties are given (Qxb6630533aDoorTie.lean); close each card by the builder's one call (the guide's Derived/Test/ToyasCard.lean, 'card_holds'). Laid BY PROGRAM, IN A SANDBOX (cutbox-door.mjs). By AI agents, Wed Nov 11 2026. No macro, syntax, notation, axiom, sorry.
-/
import Derived.Test.Qxb6630533aDoorRows
import GoSem.ClaimSeven
namespace Go.Proofs.Qxb6630533aDoor
namespace Rows

/-- THE TIED CARD OF 'zzlaws_internal_jsondoc_b1.FnPointerAtNamesThePlaceThatStartsThere'. -/
def fnPointerAtNamesThePlaceThatStartsThereCard : Claim7 := { stood := { row := fnPointerAtNamesThePlaceThatStartsThereRow, standIns := [], harness := (true, "2001d8dd5ad443b89ad34bd854a1a1d61aded65a57f4d473a033e9ecc36a0108"), looks := false }, kinds := [], alts := [], laidByText := true, laidKinds := [.data, .data, .data], laidTests := true, laidLooks := .later }
def FnPointerAtNamesThePlaceThatStartsThereCardSaid : Prop := Claim7.holds Tryd.pinned (.plain (OpenSpec.ofChange fnPointerAtNamesThePlaceThatStartsThereSpec)) fnPointerAtNamesThePlaceThatStartsThereCard

/-- THE TIED CARD OF 'zzlaws_internal_jsondoc_b1.FnPointerAtSeesOnlyTheOrderOfOffsets'. -/
def fnPointerAtSeesOnlyTheOrderOfOffsetsCard : Claim7 := { stood := { row := fnPointerAtSeesOnlyTheOrderOfOffsetsRow, standIns := [], harness := (true, "2001d8dd5ad443b89ad34bd854a1a1d61aded65a57f4d473a033e9ecc36a0108"), looks := false }, kinds := [], alts := [], laidByText := true, laidKinds := [.data, .data, .data], laidTests := true, laidLooks := .later }
def FnPointerAtSeesOnlyTheOrderOfOffsetsCardSaid : Prop := Claim7.holds Tryd.pinned (.plain (OpenSpec.ofChange fnPointerAtSeesOnlyTheOrderOfOffsetsSpec)) fnPointerAtSeesOnlyTheOrderOfOffsetsCard
end Rows
end Go.Proofs.Qxb6630533aDoor
