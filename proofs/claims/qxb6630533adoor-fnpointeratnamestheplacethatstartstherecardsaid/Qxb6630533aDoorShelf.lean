/-
  strconv.Itoa AT THIS DUMP: the shelf's contract, proved once over any program and numbering, laid here in plain words (the kit's lay-shelf.mjs and lay-plain.mjs wrote the table of numbers and the laying for this program).
-/
import Derived.Shelf.LaysM
import Derived.Shelf.Strconv.Itoa3
import Derived.Test.Qxb6630533aDoorRows
namespace Go.Proofs
open Go.Shelf
def Tryd.laysM171_ren : Go.Shelf.Ren := ⟨fun | 171 => 17 | 243 => 23 | 246 => 25 | 283 => 26 | 284 => 27 | 285 => 28 | 286 => 29 | 129 => 31 | 317 => 30 | 318 => 32 | 319 => 33 | 320 => 34 | 337 => 35 | 338 => 36 | n => n, fun | 3 => 3 | 9 => 9 | 2 => 2 | 4 => 4 | 171 => 62 | 0 => 0 | 53 => 64 | 37 => 58 | 5 => 5 | 173 => 67 | 212 => 71 | 51 => 72 | 20 => 20 | 213 => 73 | 46 => 59 | 232 => 76 | 233 => 77 | n => n, fun | 17 => 0 | 18 => 1 | 19 => 2 | n => n⟩
theorem Tryd.laysM171 : Go.Proofs.LaysM.n171 Tryd.prog Tryd.laysM171_ren := {
  mixed := by kernel_rfl
  f129 := Tryd.func31.trans (congrArg some (by kernel_rfl))
  f171 := Tryd.func17.trans (congrArg some (by kernel_rfl))
  f243 := Tryd.func23.trans (congrArg some (by kernel_rfl))
  f246 := Tryd.func25.trans (congrArg some (by kernel_rfl))
  f283 := Tryd.func26.trans (congrArg some (by kernel_rfl))
  f284 := Tryd.func27.trans (congrArg some (by kernel_rfl))
  f285 := Tryd.func28.trans (congrArg some (by kernel_rfl))
  f286 := Tryd.func29.trans (congrArg some (by kernel_rfl))
  f317 := Tryd.func30.trans (congrArg some (by kernel_rfl))
  f318 := Tryd.func32.trans (congrArg some (by kernel_rfl))
  f319 := Tryd.func33.trans (congrArg some (by kernel_rfl))
  f320 := Tryd.func34.trans (congrArg some (by kernel_rfl))
  f337 := Tryd.func35.trans (congrArg some (by kernel_rfl))
  f338 := Tryd.func36.trans (congrArg some (by kernel_rfl))
  t0 := Tryd.underlying0
  a0 := Tryd.isAgg0
  z0 := Tryd.sizeOf0
  v0 := Tryd.zeroValue0
  t2 := Tryd.underlying2
  a2 := Tryd.isAgg2
  z2 := Tryd.sizeOf2
  v2 := Tryd.zeroValue2
  t3 := Tryd.underlying3
  a3 := Tryd.isAgg3
  z3 := Tryd.sizeOf3
  v3 := Tryd.zeroValue3
  t4 := Tryd.underlying4
  a4 := Tryd.isAgg4
  z4 := Tryd.sizeOf4
  v4 := Tryd.zeroValue4
  t5 := Tryd.underlying5
  a5 := Tryd.isAgg5
  z5 := Tryd.sizeOf5
  v5 := Tryd.zeroValue5
  t9 := Tryd.underlying9
  a9 := Tryd.isAgg9
  z9 := Tryd.sizeOf9
  v9 := Tryd.zeroValue9
  t20 := Tryd.underlying20
  a20 := Tryd.isAgg20
  z20 := Tryd.sizeOf20
  v20 := Tryd.zeroValue20
  t37 := Tryd.underlying58
  a37 := Tryd.isAgg58
  z37 := Tryd.sizeOf58
  v37 := Tryd.zeroValue58
  t46 := Tryd.underlying59
  a46 := Tryd.isAgg59
  z46 := Tryd.sizeOf59
  v46 := Tryd.zeroValue59
  t51 := Tryd.underlying72
  a51 := Tryd.isAgg72
  z51 := Tryd.sizeOf72
  v51 := Tryd.zeroValue72
  t53 := Tryd.underlying64
  a53 := Tryd.isAgg64
  z53 := Tryd.sizeOf64
  v53 := Tryd.zeroValue64
  t171 := Tryd.underlying62
  a171 := Tryd.isAgg62
  z171 := Tryd.sizeOf62
  v171 := Tryd.zeroValue62
  t173 := Tryd.underlying67
  a173 := Tryd.isAgg67
  z173 := Tryd.sizeOf67
  v173 := Tryd.zeroValue67
  t212 := Tryd.underlying71
  a212 := Tryd.isAgg71
  z212 := Tryd.sizeOf71
  v212 := Tryd.zeroValue71
  t213 := Tryd.underlying73
  a213 := Tryd.isAgg73
  z213 := Tryd.sizeOf73
  t232 := Tryd.underlying76
  a232 := Tryd.isAgg76
  z232 := Tryd.sizeOf76
  v232 := Tryd.zeroValue76
  t233 := Tryd.underlying77
  a233 := Tryd.isAgg77
  z233 := Tryd.sizeOf77
  v233 := Tryd.zeroValue77
  g17 := by kernel_rfl
  g18 := by kernel_rfl
  g19 := by kernel_rfl
  i0 := by kernel_rfl
  i2 := by kernel_rfl
  i3 := by kernel_rfl
  i4 := by kernel_rfl
  i5 := by kernel_rfl
  i9 := by kernel_rfl
  i20 := by kernel_rfl
  i37 := by kernel_rfl
  i46 := by kernel_rfl
  i51 := by kernel_rfl
  i53 := by kernel_rfl
  i171 := by kernel_rfl
  i173 := by kernel_rfl
  i212 := by kernel_rfl
  i232 := by kernel_rfl
  i233 := by kernel_rfl
  m17 := by kernel_rfl
  m18 := by kernel_rfl
  m19 := by kernel_rfl }

namespace Qxb6630533aDoor
/-- The table's name, as the given rows spell it. -/
def tabName : String := (Rows.fnPointerAtSeesOnlyTheOrderOfOffsetsRow.named[0]?).getD ""

open Go.RowKit Go.Sort Go.Lib in
/-- strconv.Itoa at every int: its decimal numeral; new blocks and draws alone. -/
theorem itoa17 (n : Int) (h0 : -9223372036854775808 ≤ n) (h1 : n ≤ 9223372036854775807) (w : World) (htab : Lib.TabIs Tryd.prog w tabName .u64 Lib.pow10Tab) :
    Calls Tryd.prog 17 #[.int .i64 n] w fun e w' => e = .returned (.string ⟨(Lib.itoa n).toArray⟩) ∧ ∃ k os, w' = grow (w.drewN k) os := Any.strconv_Itoa Tryd.laysM171 n h0 h1 w htab
end Qxb6630533aDoor
end Go.Proofs
