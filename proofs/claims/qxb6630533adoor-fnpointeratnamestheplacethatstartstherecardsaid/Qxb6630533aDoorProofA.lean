/-
  'Rows.FnPointerAtSeesOnlyTheOrderOfOffsetsCardSaid' PROVED: the row, then the tied card.
-/
import Derived.Test.Qxb6630533aDoorRows
import Derived.Test.Qxb6630533aDoorCards
import Derived.Test.Qxb6630533aDoorTie
import Derived.Test.Qxb6630533aDoorLawA
import Derived.Test.Qxb6630533aDoorOpens
import Derived.ProofKit
import Derived.LaidMore
import Derived.OpenShut
import Derived.Stop.Joined
import Derived.ChangeSame
import Derived.Carry
import Derived.Lib.LaidTab
import Derived.SevenTiedAt
namespace Go.Proofs.Qxb6630533aDoor
open Go.ChangeShapes Go.WideShapes Go.ChangeAt Go.WideMaps Go.WideElems Go.RowKit Go.Joins
set_option linter.unusedVariables false

theorem own : ownKnob Tryd.prog.godebug = none := by kernel_rfl
theorem laidOut : laidOutB Tryd.prog = true := by kernel_rfl

/-- The three tables as the rows list them. -/
def tables : List (String × DataW Unit) := Rows.fnPointerAtSeesOnlyTheOrderOfOffsetsRow.laid

/-- The door's own heap meets the condition. -/
theorem door_met (os : Os) (args : Array Value) : laidMetH Tryd.prog tables ((World.doorLaid Tryd.prog 400 os).forCall (fun _ _ => 0) ⟨#[], args, []⟩).memory :=
  laidMetH_of_parts3 (fuel := 8) (laidMet_of_run' 8 (by kernel_rfl) (by kernel_rfl)) (by kernel_rfl) (by kernel_rfl)

theorem gTab : Tryd.prog.globalNamed tabName = some 0 := by kernel_rfl

theorem tTab : (Tryd.prog.globals[0]?).map (·.type) = some 71 := by kernel_rfl

/-- What the condition gives the walks: the table of powers of ten. -/
theorem of_laid {W : World} (h : laidMetH Tryd.prog tables W) : Lib.TabIs Tryd.prog W tabName .u64 Lib.pow10Tab := by
  rw [MakeChecks.laidMetH_plain _ _ _ (by kernel_rfl)] at h
  obtain ⟨ps, ⟨g0, t0, cs0, f0, p0, q0, hg0, ht0, hv0, hd0, ⟨g1, t1, cs1, f1, p1, q1, hg1, ht1, hv1, hd1, ⟨g2, t2, cs2, f2, p2, q2, hg2, ht2, hv2, hd2, _, _⟩, _⟩, _⟩, _, _⟩ := h
  obtain rfl := Option.some.inj (gTab.symm.trans (show Tryd.prog.globalNamed tabName = some g2 from hg2))
  obtain rfl := Option.some.inj (tTab.symm.trans ht2)
  show W.var? Tryd.prog tabName = _
  rw [show W.var? Tryd.prog tabName = some cs2 from hv2, ← Lib.cells_of_tab (zs := Lib.pow10Tab) Tryd.underlying71 Tryd.underlying64 (by kernel_rfl) (by kernel_rfl) hd2]

set_option maxRecDepth 100000 in
theorem liftedA (os : Os) (started : os.Started) (H : Type) (enc : TypeId × Value → H) :
    ReturnsInHanded {} Tryd.checked os 4 .any (fun w args => (Rows.fnPointerAtSeesOnlyTheOrderOfOffsetsSpec.pre enc Tryd.prog Tryd.f4 [] false w args ∧ laidMetH Tryd.prog tables w) ∧ sizedMet enc Tryd.prog Tryd.f4 (OpenSpec.ofChange Rows.fnPointerAtSeesOnlyTheOrderOfOffsetsSpec) false w args)
      (Rows.fnPointerAtSeesOnlyTheOrderOfOffsetsSpec.post enc Tryd.prog Tryd.f4 false true false false) := by
  refine returnsInHanded_of_change_and (C := Tryd.checked) (X := fun w _ => laidMetH Tryd.prog tables w) (fun _ _ _ hh h => h.of_heap hh) own started (by kernel_rfl) Tryd.func4
    (ChangeSpec.witness_shaped (enc := enc) (C := Tryd.checked) (os := os) (X := fun w _ => laidMetH Tryd.prog tables w) false (World.doorLaid Tryd.prog 400 os) #[.agg #[.int .u8 0, .int .i64 0, .int .i64 0, .slice none 0 0, .slice none 0 0], .int .i64 0, .int .i64 0] 8 rfl (World.shaped_of_RefB (by kernel_rfl) (by kernel_rfl)) (by kernel_rfl) (by kernel_rfl) (by kernel_rfl) (door_met os _)) ?_
  intro W base args ds gs before hval0 hW _ _ hL _
  have hval : ∀ (j : Nat) t v, Tryd.f4.params[j]? = some t → args[j]? = some v → Value.okWide Tryd.prog W .any base t v := hval0
  have hW' := hW
  obtain ⟨p, q, hA0, hV, rfl, hfz, hnd⟩ := hW
  have hA : DataW.TrodAll enc Tryd.prog W 0 (fun _ => true) true Tryd.f4.params.toList args.toList ds p := hA0
  rw [Tryd.params4] at hA hval
  obtain ⟨v0, vs0, d0, ds0, p0, q0, hargs, rfl, rfl, h0, r0⟩ := trodAll_cons hA
  obtain ⟨v1, vs1, d1, ds1, p1, q1, rfl, rfl, rfl, h1, r1⟩ := trodAll_cons r0
  obtain ⟨v2, vs2, d2, ds2, p2, q2, rfl, rfl, rfl, h2, r2⟩ := trodAll_cons r1
  obtain ⟨rfl, rfl, rfl⟩ := trodAll_nil r2
  obtain rfl : args = #[v0, v1, v2] := by cases args; simp_all
  obtain ⟨rfl, rfl⟩ := trodVars_none hV
  obtain ⟨x, rfl, rfl, rfl, wx⟩ := open_int Tryd.underlying3 (hval 1 3 v1 rfl rfl) h1
  obtain ⟨d, rfl, rfl, rfl, wd⟩ := open_int Tryd.underlying3 (hval 2 3 v2 rfl rfl) h2
  have k0 := h0
  have lt0 : ∀ x ∈ p0, x.block < W.heap.size := by obtain ⟨m, hm⟩ := k0; exact DataW.trod_lt m _ _ _ hm
  obtain ⟨cs, rfl, hsz⟩ := okWide_struct Tryd.underlying25 (hval 0 25 v0 rfl rfl)
  obtain ⟨fuel, hf⟩ := h0
  obtain ⟨t, hin⟩ := open_node fuel _ _ hf
  have hin' : InN W 0 fuel cs.toList t := by simpa [Value.cells] using hin
  have htab := of_laid hL
  clear hA0 hval0
  have hcs : cs.toList.toArray = cs := by simp
  have hwalk := law4 fuel cs.toList t x d W hin' (bounds_i64 wx) (bounds_i64 wd) htab
  rw [hcs] at hwalk
  refine hwalk.mono fun e W' ⟨he, bel⟩ => ?_
  subst he
  exact ⟨_, rfl, _, _, _, [], _, [], hW', trodAll_mk1 (shut_bool Tryd.underlying4 _), (trodAll_cons_mk (Below.trod laidOut (by kernel_rfl) (of_decide_eq_true (by kernel_rfl)) k0 bel lt0) (trodAll_cons_mk (shut_int Tryd.underlying3 wx) (trodAll_cons_mk (shut_int Tryd.underlying3 wd) trodAll_mk0))), rfl, bel.frame _, fun h => by cases h⟩

theorem rowA : Rows.FnPointerAtSeesOnlyTheOrderOfOffsetsSaid :=
  OpenClaim.holds_of_wide 4 Tryd.f4 rfl rfl rfl rfl rfl rfl rfl ⟨rfl, rfl, rfl, rfl, rfl⟩ rfl rfl rfl rfl rfl (by kernel_rfl) Tryd.func4 (by kernel_rfl)
    (of_decide_eq_true (by kernel_rfl)) (by unfold Func.isWrapper; first | (rw [if_pos (by decide +kernel)]; kernel_rfl) | (rw [if_neg (by decide +kernel)]; exact ⟨rfl, rfl⟩))
    (fun os started H enc _ => liftedA os started H enc)

/-- ████ THE STATEMENT ████ -/
theorem seesOnlyTheOrder : Rows.FnPointerAtSeesOnlyTheOrderOfOffsetsCardSaid :=
  Claim7.holds_tied_plain_at .later [] [.data, .data, .data] true (true, "2001d8dd5ad443b89ad34bd854a1a1d61aded65a57f4d473a033e9ecc36a0108") false
    rowA (fun _ h => by cases h) (by kernel_rfl) (fun _ h => by cases h) fnPointerAtSeesOnlyTheOrderOfOffsets_row_tie rfl ⟨rfl, rfl⟩ (by kernel_rfl) rfl
    (fun f fn hf hfn => by
      obtain rfl : f = 4 := Option.some.inj ((show Tryd.prog.funcNamed Rows.fnPointerAtSeesOnlyTheOrderOfOffsetsRow.func = some 4 by kernel_rfl).symm.trans hf) |>.symm
      obtain rfl : fn = Tryd.f4 := (Option.some.inj (Tryd.func4.symm.trans hfn)).symm
      exact ⟨by kernel_rfl, fun j t ht => by
        rw [Tryd.params4] at ht
        have hm : t ∈ [25, 3, 3] := by simpa using Array.mem_of_getElem? ht
        have hall : ([25, 3, 3].all fun u => !Tryd.prog.wantsStandIn u) = true := by kernel_rfl
        exact (show Tryd.prog.wantsStandIn t = false by simpa using List.all_eq_true.1 hall t hm)⟩)
    (by kernel_rfl)
#print axioms seesOnlyTheOrder
end Go.Proofs.Qxb6630533aDoor
