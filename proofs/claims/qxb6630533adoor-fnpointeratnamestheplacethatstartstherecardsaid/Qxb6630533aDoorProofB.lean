/-
  'Rows.FnPointerAtNamesThePlaceThatStartsThereCardSaid' PROVED: the row, then the tied card.
-/
import Derived.Test.Qxb6630533aDoorProofA
import Derived.Test.Qxb6630533aDoorLawB
namespace Go.Proofs.Qxb6630533aDoor
open Go.ChangeShapes Go.WideShapes Go.ChangeAt Go.WideMaps Go.WideElems Go.RowKit Go.Joins
set_option linter.unusedVariables false

set_option maxRecDepth 100000 in
theorem liftedB (os : Os) (started : os.Started) (H : Type) (enc : TypeId × Value → H) :
    ReturnsInHanded {} Tryd.checked os 3 .any (fun w args => (Rows.fnPointerAtNamesThePlaceThatStartsThereSpec.pre enc Tryd.prog Tryd.f3 [] false w args ∧ laidMetH Tryd.prog tables w) ∧ sizedMet enc Tryd.prog Tryd.f3 (OpenSpec.ofChange Rows.fnPointerAtNamesThePlaceThatStartsThereSpec) false w args)
      (Rows.fnPointerAtNamesThePlaceThatStartsThereSpec.post enc Tryd.prog Tryd.f3 false true false false) := by
  refine returnsInHanded_of_change_and (C := Tryd.checked) (X := fun w _ => laidMetH Tryd.prog tables w) (fun _ _ _ hh h => h.of_heap hh) own started (by kernel_rfl) Tryd.func3
    (ChangeSpec.witness_shaped (enc := enc) (C := Tryd.checked) (os := os) (X := fun w _ => laidMetH Tryd.prog tables w) false (World.doorLaid Tryd.prog 400 os) #[.agg #[.int .u8 0, .int .i64 0, .int .i64 0, .slice none 0 0, .slice none 0 0], .int .i64 0] 8 rfl (World.shaped_of_RefB (by kernel_rfl) (by kernel_rfl)) (by kernel_rfl) (by kernel_rfl) (by kernel_rfl) (door_met os _)) ?_
  intro W base args ds gs before hval0 hW _ _ hL _
  have hval : ∀ (j : Nat) t v, Tryd.f3.params[j]? = some t → args[j]? = some v → Value.okWide Tryd.prog W .any base t v := hval0
  have hW' := hW
  obtain ⟨p, q, hA0, hV, rfl, hfz, hnd⟩ := hW
  have hA : DataW.TrodAll enc Tryd.prog W 0 (fun _ => true) true Tryd.f3.params.toList args.toList ds p := hA0
  rw [Tryd.params3] at hA hval
  obtain ⟨v0, vs0, d0, ds0, p0, q0, hargs, rfl, rfl, h0, r0⟩ := trodAll_cons hA
  obtain ⟨v1, vs1, d1, ds1, p1, q1, rfl, rfl, rfl, h1, r1⟩ := trodAll_cons r0
  obtain ⟨rfl, rfl, rfl⟩ := trodAll_nil r1
  obtain rfl : args = #[v0, v1] := by cases args; simp_all
  obtain ⟨rfl, rfl⟩ := trodVars_none hV
  obtain ⟨x, rfl, rfl, rfl, wx⟩ := open_int Tryd.underlying3 (hval 1 3 v1 rfl rfl) h1
  have k0 := h0
  have lt0 : ∀ x ∈ p0, x.block < W.heap.size := by obtain ⟨m, hm⟩ := k0; exact DataW.trod_lt m _ _ _ hm
  obtain ⟨cs, rfl, hsz⟩ := okWide_struct Tryd.underlying25 (hval 0 25 v0 rfl rfl)
  obtain ⟨fuel, hf⟩ := h0
  obtain ⟨t, hin⟩ := open_node fuel _ _ hf
  have hin' : InN W 0 fuel cs.toList t := by simpa [Value.cells] using hin
  have htab := of_laid hL
  clear hA0 hval0
  have hcs : cs.toList.toArray = cs := by simp
  have hwalk := law3 fuel cs.toList t x W hin' htab
  rw [hcs] at hwalk
  refine hwalk.mono fun e W' ⟨he, bel⟩ => ?_
  subst he
  exact ⟨_, rfl, _, _, _, [], _, [], hW', trodAll_mk1 (shut_bool Tryd.underlying4 _), (trodAll_cons_mk (Below.trod laidOut (by kernel_rfl) (of_decide_eq_true (by kernel_rfl)) k0 bel lt0) (trodAll_cons_mk (shut_int Tryd.underlying3 wx) trodAll_mk0)), rfl, bel.frame _, fun h => by cases h⟩

theorem rowB : Rows.FnPointerAtNamesThePlaceThatStartsThereSaid :=
  OpenClaim.holds_of_wide 3 Tryd.f3 rfl rfl rfl rfl rfl rfl rfl ⟨rfl, rfl, rfl, rfl, rfl⟩ rfl rfl rfl rfl rfl (by kernel_rfl) Tryd.func3 (by kernel_rfl)
    (of_decide_eq_true (by kernel_rfl)) (by unfold Func.isWrapper; first | (rw [if_pos (by decide +kernel)]; kernel_rfl) | (rw [if_neg (by decide +kernel)]; exact ⟨rfl, rfl⟩))
    (fun os started H enc _ => liftedB os started H enc)

/-- ████ THE STATEMENT ████ -/
theorem namesThePlace : Rows.FnPointerAtNamesThePlaceThatStartsThereCardSaid :=
  Claim7.holds_tied_plain_at .later [] [.data, .data, .data] true (true, "2001d8dd5ad443b89ad34bd854a1a1d61aded65a57f4d473a033e9ecc36a0108") false
    rowB (fun _ h => by cases h) (by kernel_rfl) (fun _ h => by cases h) fnPointerAtNamesThePlaceThatStartsThere_row_tie rfl ⟨rfl, rfl⟩ (by kernel_rfl) rfl
    (fun f fn hf hfn => by
      obtain rfl : f = 3 := Option.some.inj ((show Tryd.prog.funcNamed Rows.fnPointerAtNamesThePlaceThatStartsThereRow.func = some 3 by kernel_rfl).symm.trans hf) |>.symm
      obtain rfl : fn = Tryd.f3 := (Option.some.inj (Tryd.func3.symm.trans hfn)).symm
      exact ⟨by kernel_rfl, fun j t ht => by
        rw [Tryd.params3] at ht
        have hm : t ∈ [25, 3] := by simpa using Array.mem_of_getElem? ht
        have hall : ([25, 3].all fun u => !Tryd.prog.wantsStandIn u) = true := by kernel_rfl
        exact (show Tryd.prog.wantsStandIn t = false by simpa using List.all_eq_true.1 hall t hm)⟩)
    (by kernel_rfl)
#print axioms namesThePlace
end Go.Proofs.Qxb6630533aDoor
