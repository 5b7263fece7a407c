/-
  THE LAW FnPointerAtSeesOnlyTheOrderOfOffsets (function 4), walked: it returns true.
-/
import Derived.Test.Qxb6630533aDoorAt
import Derived.Test.Qxb6630533aDoorShift
namespace Go.Proofs.Qxb6630533aDoor
open Go.RowKit Go.Lib

/-- PointerAt's answer, named. -/
def P8 (s : ByteArray) (f : Bool) (w : World) (e : Ending) (w' : World) : Prop := e = .returned (.tuple #[.string s, .bool f]) ∧ Below w.heap.size w w'

theorem pt8 (o : Option (List ByteArray)) (x : Int) (n : Nat) (t : Tr n) (g0 : Nat) (w : World) (hO : OutV w 0 n g0 t) (hwt : weight n t ≤ 1048576) (htab : Lib.TabIs Tryd.prog w tabName .u64 Lib.pow10Tab) (ho : ptAt x n t = o) :
    Calls Tryd.prog 8 #[.pointer (some ⟨g0, 0, none⟩), .int .i64 x] w (P8 (ansS o) o.isSome w) := by
  subst ho
  exact pointerAt8 x n t g0 w hO hwt htab

theorem weight_shift (d : Int) : ∀ (n : Nat) (t : Tr n), weight n (shiftT d n t) = weight n t := by
  intro n
  induction n with
  | zero => intro t; exact Empty.elim t
  | succ n ih =>
    intro t
    obtain ⟨kind, off, fin, els, mem⟩ := (t : TrF (Tr n))
    show 64 + ((els.map (shiftT d n)).map (weight n)).sum + ((mem.map fun m => (⟨m.name, wrap64 (m.off + d), shiftT d n m.val⟩ : MemF (Tr n))).map fun m => 16 + m.name.size + weight n m.val).sum = 64 + (els.map (weight n)).sum + (mem.map fun m => 16 + m.name.size + weight n m.val).sum
    rw [List.map_map, List.map_map]
    have e1 : (weight n ∘ shiftT d n) = weight n := by funext u; exact ih u
    have e2 : ((fun m : MemF (Tr n) => 16 + m.name.size + weight n m.val) ∘ fun m : MemF (Tr n) => (⟨m.name, wrap64 (m.off + d), shiftT d n m.val⟩ : MemF (Tr n))) = fun m : MemF (Tr n) => 16 + m.name.size + weight n m.val := by
      funext u
      show 16 + u.name.size + weight n (shiftT d n u.val) = _
      rw [ih]
    rw [e1, e2]

set_option maxHeartbeats 8000000 in
set_option maxRecDepth 100000 in
theorem law4 (n : Nat) (cs : List Value) (t : Tr n) (x d : Int) (w : World) (hin : InN w 0 n cs t) (hx : -9223372036854775808 ≤ x ∧ x ≤ 9223372036854775807) (hd : -9223372036854775808 ≤ d ∧ d ≤ 9223372036854775807)
    (htab : Lib.TabIs Tryd.prog w tabName .u64 Lib.pow10Tab) :
    Calls Tryd.prog 4 #[.agg cs.toArray, .int .i64 x, .int .i64 d] w fun e w' => e = .returned (.bool true) ∧ Below w.heap.size w w' := by
  cases n with
  | zero => exact hin.elim
  | succ n =>
    obtain ⟨kind, off, fin, els, mem⟩ := (t : TrF (Tr n))
    have HIN := hide hin
    obtain ⟨ea, el, ec, ma, ml, mc, rfl, _, _, _, _⟩ := hin
    simp only at HIN
    obtain ⟨t, ht⟩ : ∃ t : Tr (n + 1), (⟨kind, off, fin, els, mem⟩ : TrF (Tr n)) = t := ⟨_, rfl⟩
    have HOFF : Hid (offOf (n + 1) t = off) := hide (by rw [← ht]; rfl)
    have HIN : Hid (InN w 0 (n + 1) [.int .u8 kind, .int .i64 off, .int .i64 fin, .slice ea el ec, .slice ma ml mc] t) := hide (by rw [← ht]; exact unhide HIN)
    have HTAB := hide htab
    have HX := hide hx
    have HD := hide hd
    clear htab ht hx hd
    rename_i _ _ _ _
    go_enter Tryd.func4, Tryd.ntmps4
    go_wp2_with fail
    obtain ⟨W0, hW0⟩ : ∃ W0, W0 = (w.alloc (.cells #[.int .u8 kind, .int .i64 off, .int .i64 fin, .slice ea el ec, .slice ma ml mc] 25)) := ⟨_, rfl⟩
    rw [← hW0]
    have HB0 : Hid (W0.heap[w.heap.size]? = some (.cells #[.int .u8 kind, .int .i64 off, .int .i64 fin, .slice ea el ec, .slice ma ml mc] 25 (0, 0))) := hide (by rw [hW0]; exact Go.heap_alloc_new _ _)
    have HS0 : Hid (W0.heap.size = w.heap.size + 1) := hide (by rw [hW0]; simp)
    have hb0 : Below w.heap.size w W0 := by rw [hW0]; exact (Below.refl _ _).alloc (Nat.le_refl _) _
    clear hW0
    have z0 : w.heap.size < W0.heap.size := lt_of_block (unhide HB0)
    refine (bytes5 (n + 1) [_, _, _, _, _] t 1048576 _ (InN.keep (From.of_below hb0) _ _ _ (unhide HIN)) (by decide) (by decide)).mono ?_
    rintro _ w1 ⟨r, rfl, hr1, hr2, hr3, hb1⟩
    have hb01 : Below w.heap.size w w1 := hb0.trans (hb1.mono hb0.size)
    have HB1 := hide ((hb1.block w.heap.size z0).trans (unhide HB0))
    by_cases hr : r < 0
    · clear hr1 hr2 hr3
      go_wp2_with fail
      go_ret
      exact ⟨rfl, hb01⟩
    · have HW : Hid (weight (n + 1) t ≤ 1048576) := hide (by have := hr3 (by omega); omega)
      clear hr1 hr2 hr3
      obtain ⟨b0, b1, b2, b3, b4⟩ := cell5 (cells_of_block (cs := [_, _, _, _, _]) (unhide HB1))
      simp only [Nat.zero_add] at b0 b1 b2 b3 b4
      go_wp2_with fail
      refine (addok11 _ _ _ (unhide HX) (unhide HD)).mono ?_
      rintro _ _ ⟨ok, rfl, hok, hw⟩
      obtain rfl := hw.symm
      cases ok with
      | false =>
        clear hok b0 b1 b2 b3 b4
        go_wp2_with fail
        go_ret
        exact ⟨rfl, hb01⟩
      | true =>
        have hxd : wrap64 (x + d) = x + d := hok rfl
        clear hok
        go_wp2_with fail
        refine (fits12 d (unhide HD) (n + 1) [_, _, _, _, _] t _ (InN.keep (From.of_below hb01) _ _ _ (unhide HIN)) (unhide HW)).mono ?_
        rintro _ w2 ⟨ok, rfl, hok, hb2⟩
        have hb02 : Below w.heap.size w w2 := hb01.trans (hb2.mono hb01.size)
        have z1 : w.heap.size < w1.heap.size := lt_of_block (unhide HB1)
        have HB2 := hide ((hb2.block w.heap.size z1).trans (unhide HB1))
        clear b0 b1 b2 b3 b4
        cases ok with
        | false =>
          clear hok
          go_wp2_with fail
          go_ret
          exact ⟨rfl, hb02⟩
        | true =>
          have HFI : Hid (Fits d (n + 1) t) := hide (hok rfl)
          clear hok
          have z2 : w.heap.size < w2.heap.size := lt_of_block (unhide HB2)
          obtain ⟨b0, b1, b2, b3, b4⟩ := cell5 (cells_of_block (cs := [_, _, _, _, _]) (unhide HB2))
          simp only [Nat.zero_add] at b0 b1 b2 b3 b4
          go_wp2_with fail
          refine (toval7 (n + 1) [_, _, _, _, _] t _ (InN.keep (From.of_below hb02) _ _ _ (unhide HIN)) (unhide HW)).mono ?_
          rintro _ w3 ⟨ga, rfl, hoa, hb3⟩
          have hb03 : Below w.heap.size w w3 := hb02.trans (hb3.mono hb02.size)
          have HB3 := hide ((hb3.block w.heap.size z2).trans (unhide HB2))
          have z3 : w.heap.size < w3.heap.size := lt_of_block (unhide HB3)
          have HOA := hide (OutV.mono (Nat.zero_le _) _ _ _ hoa)
          clear b0 b1 b2 b3 b4 hoa
          obtain ⟨b0, b1, b2, b3, b4⟩ := cell5 (cells_of_block (cs := [_, _, _, _, _]) (unhide HB3))
          simp only [Nat.zero_add] at b0 b1 b2 b3 b4
          go_wp2_with fail
          refine (shifted13 d (n + 1) [_, _, _, _, _] t _ (InN.keep (From.of_below hb03) _ _ _ (unhide HIN)) (unhide HW)).mono ?_
          rintro _ w4 ⟨y0, y1, y2, za, zl, zc, xa, xl, xc, rfl, hin4, hb4⟩
          have hb04 : Below w.heap.size w w4 := hb03.trans (hb4.mono hb03.size)
          have HB4 := hide ((hb4.block w.heap.size z3).trans (unhide HB3))
          have z4 : w.heap.size < w4.heap.size := lt_of_block (unhide HB4)
          have HOA4 := hide (OutV.keep (From.of_below hb4) _ _ _ (unhide HOA))
          have HIN4 := hide (InN.mono (Nat.zero_le _) _ _ _ hin4)
          have HWS : Hid (weight (n + 1) (shiftT d (n + 1) t) ≤ 1048576) := hide (by rw [weight_shift]; exact unhide HW)
          clear b0 b1 b2 b3 b4 hin4
          go_wp2_with fail
          refine (toval7 (n + 1) [_, _, _, _, _] (shiftT d (n + 1) t) _ (unhide HIN4) (unhide HWS)).mono ?_
          rintro _ w5 ⟨gb, rfl, hob, hb5⟩
          have hb05 : Below w.heap.size w w5 := hb04.trans (hb5.mono hb04.size)
          have HB5 := hide ((hb5.block w.heap.size z4).trans (unhide HB4))
          have z5 : w.heap.size < w5.heap.size := lt_of_block (unhide HB5)
          have HOA5 := hide (OutV.keep (From.of_below hb5) _ _ _ (unhide HOA4))
          have HOB5 := hide (OutV.mono (Nat.zero_le _) _ _ _ hob)
          clear hob
          obtain ⟨o, ho⟩ : ∃ o, ptAt x (n + 1) t = o := ⟨_, rfl⟩
          have HO := hide ho
          have HOS : Hid (ptAt (x + d) (n + 1) (shiftT d (n + 1) t) = o) := hide (by rw [ptAt_shift d x _ t (unhide HFI)]; exact ho)
          have HR : Hid (ptAt off (n + 1) t = some []) := hide (by rw [← unhide HOFF]; exact ptAt_root _ _)
          have HRS : Hid (ptAt (off + d) (n + 1) (shiftT d (n + 1) t) = some []) := hide (by rw [ptAt_shift d off _ t (unhide HFI)]; exact unhide HR)
          have hod : wrap64 (off + d) = off + d := by rw [← unhide HOFF]; exact (unhide HFI).1
          clear ho
          go_wp2_with fail
          refine (pt8 o x (n + 1) t ga _ (unhide HOA5) (unhide HW) (tab_keep (unhide HTAB) hb05 (Nat.le_refl _)) (unhide HO)).mono ?_
          rintro _ w6 ⟨rfl, hb6⟩
          have hb06 : Below w.heap.size w w6 := hb05.trans (hb6.mono hb05.size)
          have HB6 := hide ((hb6.block w.heap.size z5).trans (unhide HB5))
          have z6 : w.heap.size < w6.heap.size := lt_of_block (unhide HB6)
          go_wp2_with fail
          refine (pt8 o (x + d) (n + 1) (shiftT d (n + 1) t) gb _ (OutV.keep (From.of_below hb6) _ _ _ (unhide HOB5)) (unhide HWS) (tab_keep (unhide HTAB) hb06 (Nat.le_refl _)) (unhide HOS)).mono ?_
          rintro _ w7 ⟨rfl, hb7⟩
          have hb07 : Below w.heap.size w w7 := hb06.trans (hb7.mono hb06.size)
          have HB7 := hide ((hb7.block w.heap.size z6).trans (unhide HB6))
          have z7 : w.heap.size < w7.heap.size := lt_of_block (unhide HB7)
          have hb57 : Below w5.heap.size w5 w7 := hb6.trans (hb7.mono hb6.size)
          obtain ⟨b0, b1, b2, b3, b4⟩ := cell5 (cells_of_block (cs := [_, _, _, _, _]) (unhide HB7))
          simp only [Nat.zero_add] at b0 b1 b2 b3 b4
          have ho : o = none ∨ ∃ T, o = some T := by cases o with | none => exact .inl rfl | some T => exact .inr ⟨T, rfl⟩
          obtain ⟨s, f, hs, hf, hsf⟩ : ∃ s f, ansS o = s ∧ o.isSome = f ∧ (f = false → s = ⟨#[]⟩) := ⟨_, _, rfl, rfl, fun h => by cases o with | none => rfl | some T => cases h⟩
          rw [hs, hf]
          clear hs hf ho
          cases f with
          | false =>
            obtain rfl := hsf rfl
            clear hsf
            go_wp2_with fail
            refine (pt8 (some []) off (n + 1) t ga _ (OutV.keep (From.of_below hb57) _ _ _ (unhide HOA5)) (unhide HW) (tab_keep (unhide HTAB) hb07 (Nat.le_refl _)) (unhide HR)).mono ?_
            rintro _ w8 ⟨rfl, hb8⟩
            have hb08 : Below w.heap.size w w8 := hb07.trans (hb8.mono hb07.size)
            have HB8 := hide ((hb8.block w.heap.size z7).trans (unhide HB7))
            have hb58 : Below w5.heap.size w5 w8 := hb57.trans (hb8.mono hb57.size)
            clear b0 b1 b2 b3 b4
            obtain ⟨b0, b1, b2, b3, b4⟩ := cell5 (cells_of_block (cs := [_, _, _, _, _]) (unhide HB8))
            simp only [Nat.zero_add] at b0 b1 b2 b3 b4
            go_wp2_with fail
            refine (pt8 (some []) (off + d) (n + 1) (shiftT d (n + 1) t) gb _ (OutV.keep (From.of_below hb58) _ _ _ (unhide HOB5)) (unhide HWS) (tab_keep (unhide HTAB) hb08 (Nat.le_refl _)) (unhide HRS)).mono ?_
            rintro _ w9 ⟨rfl, hb9⟩
            have hb09 : Below w.heap.size w w9 := hb08.trans (hb9.mono hb08.size)
            clear b0 b1 b2 b3 b4
            rw [show ansS (some []) = ⟨#[]⟩ from rfl, show (some ([] : List ByteArray)).isSome = true from rfl]
            go_wp2_with fail
            go_ret
            exact ⟨rfl, hb09⟩
          | true =>
            clear hsf
            go_wp2_with fail
            refine (pt8 (some []) off (n + 1) t ga _ (OutV.keep (From.of_below hb57) _ _ _ (unhide HOA5)) (unhide HW) (tab_keep (unhide HTAB) hb07 (Nat.le_refl _)) (unhide HR)).mono ?_
            rintro _ w8 ⟨rfl, hb8⟩
            have hb08 : Below w.heap.size w w8 := hb07.trans (hb8.mono hb07.size)
            have HB8 := hide ((hb8.block w.heap.size z7).trans (unhide HB7))
            have hb58 : Below w5.heap.size w5 w8 := hb57.trans (hb8.mono hb57.size)
            clear b0 b1 b2 b3 b4
            obtain ⟨b0, b1, b2, b3, b4⟩ := cell5 (cells_of_block (cs := [_, _, _, _, _]) (unhide HB8))
            simp only [Nat.zero_add] at b0 b1 b2 b3 b4
            go_wp2_with fail
            refine (pt8 (some []) (off + d) (n + 1) (shiftT d (n + 1) t) gb _ (OutV.keep (From.of_below hb58) _ _ _ (unhide HOB5)) (unhide HWS) (tab_keep (unhide HTAB) hb08 (Nat.le_refl _)) (unhide HRS)).mono ?_
            rintro _ w9 ⟨rfl, hb9⟩
            have hb09 : Below w.heap.size w w9 := hb08.trans (hb9.mono hb08.size)
            clear b0 b1 b2 b3 b4
            rw [show ansS (some []) = ⟨#[]⟩ from rfl, show (some ([] : List ByteArray)).isSome = true from rfl]
            go_wp2_with fail
            go_ret
            exact ⟨rfl, hb09⟩

end Go.Proofs.Qxb6630533aDoor
