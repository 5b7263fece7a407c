/-
  THE LAW FnPointerAtNamesThePlaceThatStartsThere (function 3), walked: it returns true.
-/
import Derived.Test.Qxb6630533aDoorFind
import Derived.Test.Qxb6630533aDoorLaid
import Derived.Test.Qxb6630533aDoorLawA
namespace Go.Proofs.Qxb6630533aDoor
open Go.RowKit Go.Lib

theorem pointerOf10' {w : World} {B : Nat} {v : Value} {T : List ByteArray} (h : w.ownsRow B 9 1 v T.length (T.reverse.map .string)) (hB : ptBound T ≤ 140737488355328) :
    Calls Tryd.prog 10 #[v] w fun e w' => e = .returned (.string ⟨(ptText T).toArray⟩) ∧ Below w.heap.size w w' := by
  have h' : w.ownsRow B 9 1 v T.reverse.length (T.reverse.map .string) := by rw [List.length_reverse]; exact h
  obtain ⟨a, c, rfl, hsr, _⟩ := own_strs h'
  have e0 : ptBound T.reverse = ptBound T := by unfold ptBound; rw [List.map_reverse, List.sum_reverse]
  have := pointerOf10 a c T.reverse.length T.reverse w hsr rfl (by rw [e0]; exact hB)
  rw [List.reverse_reverse] at this
  exact this

set_option maxHeartbeats 8000000 in
set_option maxRecDepth 100000 in
theorem law3 (n : Nat) (cs : List Value) (t : Tr n) (x : Int) (w : World) (hin : InN w 0 n cs t) (htab : Lib.TabIs Tryd.prog w tabName .u64 Lib.pow10Tab) :
    Calls Tryd.prog 3 #[.agg cs.toArray, .int .i64 x] w fun e w' => e = .returned (.bool true) ∧ Below w.heap.size w w' := by
  cases n with
  | zero => exact hin.elim
  | succ n =>
    obtain ⟨kind, off, fin, els, mem⟩ := (t : TrF (Tr n))
    have HIN := hide hin
    obtain ⟨ea, el, ec, ma, ml, mc, rfl, _, _, _, _⟩ := hin
    simp only at HIN
    obtain ⟨t, ht⟩ : ∃ t : Tr (n + 1), (⟨kind, off, fin, els, mem⟩ : TrF (Tr n)) = t := ⟨_, rfl⟩
    have HIN : Hid (InN w 0 (n + 1) [.int .u8 kind, .int .i64 off, .int .i64 fin, .slice ea el ec, .slice ma ml mc] t) := hide (by rw [← ht]; exact unhide HIN)
    have HTAB := hide htab
    clear htab ht
    go_enter Tryd.func3, Tryd.ntmps3
    go_wp2_with fail
    obtain ⟨W0, hW0⟩ : ∃ W0, W0 = (w.alloc (.cells #[.int .u8 kind, .int .i64 off, .int .i64 fin, .slice ea el ec, .slice ma ml mc] 25)) := ⟨_, rfl⟩
    rw [← hW0]
    have HB0 : Hid (W0.heap[w.heap.size]? = some (.cells #[.int .u8 kind, .int .i64 off, .int .i64 fin, .slice ea el ec, .slice ma ml mc] 25 (0, 0))) := hide (by rw [hW0]; exact Go.heap_alloc_new _ _)
    have hb0 : Below w.heap.size w W0 := by rw [hW0]; exact (Below.refl _ _).alloc (Nat.le_refl _) _
    clear hW0
    have z0 : w.heap.size < W0.heap.size := lt_of_block (unhide HB0)
    refine (bytes5 (n + 1) [_, _, _, _, _] t 1048576 _ (InN.keep (From.of_below hb0) _ _ _ (unhide HIN)) (by decide) (by decide)).mono ?_
    rintro _ w1 ⟨r, rfl, hr1, hr2, hr3, hb1⟩
    have hb01 : Below w.heap.size w w1 := hb0.trans (hb1.mono hb0.size)
    have HB1 := hide ((hb1.block w.heap.size z0).trans (unhide HB0))
    have z1 : w.heap.size < w1.heap.size := lt_of_block (unhide HB1)
    by_cases hr : r < 0
    · clear hr1 hr2 hr3
      go_wp2_with fail
      go_ret
      exact ⟨rfl, hb01⟩
    · have HW : Hid (weight (n + 1) t ≤ 1048576) := hide (by have := hr3 (by omega); omega)
      clear hr1 hr2 hr3
      obtain ⟨b0, b1, b2, b3, b4⟩ := cell5 (cells_of_block (cs := [_, _, _, _, _]) (unhide HB1))
      simp only [Nat.zero_add] at b0 b1 b2 b3 b4
      go_wp2_with fail
      refine (laid6 (n + 1) [_, _, _, _, _] t _ (InN.keep (From.of_below hb01) _ _ _ (unhide HIN)) (unhide HW)).mono ?_
      rintro _ w2 ⟨ok, rfl, hok, hb2⟩
      have hb02 : Below w.heap.size w w2 := hb01.trans (hb2.mono hb01.size)
      have HB2 := hide ((hb2.block w.heap.size z1).trans (unhide HB1))
      clear b0 b1 b2 b3 b4
      cases ok with
      | false =>
        clear hok
        go_wp2_with fail
        go_ret
        exact ⟨rfl, hb02⟩
      | true =>
        have HLA : Hid (Laid (n + 1) t) := hide (hok rfl)
        clear hok
        have z2 : w.heap.size < w2.heap.size := lt_of_block (unhide HB2)
        obtain ⟨b0, b1, b2, b3, b4⟩ := cell5 (cells_of_block (cs := [_, _, _, _, _]) (unhide HB2))
        simp only [Nat.zero_add] at b0 b1 b2 b3 b4
        go_wp2_with fail
        refine (toval7 (n + 1) [_, _, _, _, _] t _ (InN.keep (From.of_below hb02) _ _ _ (unhide HIN)) (unhide HW)).mono ?_
        rintro _ w3 ⟨ga, rfl, hoa, hb3⟩
        have hb03 : Below w.heap.size w w3 := hb02.trans (hb3.mono hb02.size)
        have HB3 := hide ((hb3.block w.heap.size z2).trans (unhide HB2))
        have z3 : w.heap.size < w3.heap.size := lt_of_block (unhide HB3)
        have HOA := hide (OutV.mono (Nat.zero_le _) _ _ _ hoa)
        clear b0 b1 b2 b3 b4 hoa
        obtain ⟨o, ho⟩ : ∃ o, fpAt x (n + 1) t = o := ⟨_, rfl⟩
        have HFO := hide ho
        have HO : Hid (ptAt x (n + 1) t = o) := hide (by rw [ptAt_eq_fpAt x _ t (unhide HLA)]; exact ho)
        clear ho
        go_wp2_with fail
        refine (pt8 o x (n + 1) t ga _ (unhide HOA) (unhide HW) (tab_keep (unhide HTAB) hb03 (Nat.le_refl _)) (unhide HO)).mono ?_
        rintro _ w4 ⟨rfl, hb4⟩
        have hb04 : Below w.heap.size w w4 := hb03.trans (hb4.mono hb03.size)
        have HB4 := hide ((hb4.block w.heap.size z3).trans (unhide HB3))
        obtain ⟨b0, b1, b2, b3, b4⟩ := cell5 (cells_of_block (cs := [_, _, _, _, _]) (unhide HB4))
        simp only [Nat.zero_add] at b0 b1 b2 b3 b4
        go_wp2_with fail
        refine (find9 x (n + 1) [_, _, _, _, _] t _ (InN.keep (From.of_below hb04) _ _ _ (unhide HIN)) (unhide HW)).mono ?_
        rw [unhide HFO]
        rintro _ w5 ⟨v, rfl, hown, hb5⟩
        have hb05 : Below w.heap.size w w5 := hb04.trans (hb5.mono hb04.size)
        clear b0 b1 b2 b3 b4
        cases o with
        | none =>
          clear hown
          rw [show ansS none = ⟨#[]⟩ from rfl, show (none : Option (List ByteArray)).isSome = false from rfl]
          go_wp2_with fail
          go_ret
          exact ⟨rfl, hb05⟩
        | some T =>
          have HOWN : Hid (w5.ownsRow w4.heap.size 9 1 v T.length (T.reverse.map .string)) := hide hown
          have HBT : Hid (ptBound T ≤ 140737488355328) := hide (by have h1 := fp_bound x (n + 1) t T (unhide HW) (unhide HFO); have h2 := unhide HW; omega)
          clear hown
          rw [show ansS (some T) = ⟨(ptText T).toArray⟩ from rfl, show (some T).isSome = true from rfl]
          go_wp2_with fail
          refine (pointerOf10' (unhide HOWN) (unhide HBT)).mono ?_
          rintro _ w6 ⟨rfl, hb6⟩
          go_wp2_with fail
          go_ret
          exact ⟨rfl, hb05.trans (hb6.mono hb05.size)⟩

end Go.Proofs.Qxb6630533aDoor
