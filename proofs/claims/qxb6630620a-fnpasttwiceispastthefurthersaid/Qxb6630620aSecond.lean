/-
  THE WALK of FnPastTwiceIsPastTheFurther (function 4).
-/
import Derived.Test.Qxb6630620aCallees
namespace Go.Proofs.Qxb6630620a
open Go.RowKit

/-- It says yes or no and turns nothing. -/
def YesNo2 (w : World) (e : Ending) (w' : World) : Prop := ∃ ok : Bool, e = .returned (.bool ok) ∧ w' = w

set_option maxHeartbeats 1000000 in
theorem bytes9 (f t a b k : ByteArray) (bd back : Bool) (w : World) :
    Calls Try.prog 9 #[.string f, .string t, .bool bd, .bool back, .string a, .string b, .string k] w fun e w' => YesNo2 w e w' := by
  go_enter Try.func9, Try.ntmps9
  go_wp2
  all_goals
    go_ret
    exact ⟨_, rfl, rfl⟩

set_option maxHeartbeats 8000000 in
set_option maxRecDepth 100000 in
theorem second_main (f t a b k : ByteArray) (bd back : Bool) (w : World) (z1 : f.size ≤ 131072) (z2 : t.size ≤ 131072) (z3 : a.size ≤ 131072) (z4 : b.size ≤ 131072) (z5 : k.size ≤ 131072) :
    Calls Try.prog 4 #[.string f, .string t, .bool bd, .bool back, .string a, .string b, .string k] w fun e w' => e = .returned (.bool true) ∧ Below w.heap.size w w' := by
  obtain ⟨x, hx⟩ : ∃ x : Wk, x = ⟨f, t, bd, back⟩ := ⟨_, rfl⟩
  obtain ⟨ya, hya⟩ : ∃ y : Wk, past x a = y := ⟨_, rfl⟩
  obtain ⟨yb, hyb⟩ : ∃ y : Wk, past x b = y := ⟨_, rfl⟩
  obtain ⟨y, hy⟩ : ∃ y : Wk, past ya b = y := ⟨_, rfl⟩
  have HYA : Hid (past ⟨f, t, bd, back⟩ a = ya) := hide (by rw [← hx]; exact hya)
  have HYB : Hid (past ⟨f, t, bd, back⟩ b = yb) := hide (by rw [← hx]; exact hyb)
  have HY1 : Hid (past ya b = y) := hide hy
  have HY2 : Hid (past yb a = y) := hide (by rw [← hyb, ← hy, ← hya]; exact (past_comm x a b).symm)
  have HY3 : Hid (past ⟨f, t, bd, back⟩ (further back a b) = y) := hide (by
    have := past_further x a b
    rw [hya, hy, hx] at this
    exact this)
  obtain ⟨R1, h1⟩ : ∃ R, holds f t bd k = R := ⟨_, rfl⟩
  obtain ⟨R2, h2⟩ : ∃ R, beyond back a k = R := ⟨_, rfl⟩
  obtain ⟨R3, h3⟩ : ∃ R, beyond back b k = R := ⟨_, rfl⟩
  have H4 : Hid (holds y.f y.t y.b k = (R1 && R2 && R3)) := hide (by
    have e1 := past_holds x a k
    have e2 := past_holds ya b k
    rw [hya, hx, h1, h2] at e1
    have hb : ya.back = back := by rw [← hya, past_back, hx]
    rw [hy, hb, h3, e1] at e2
    exact e2)
  have HBK : Hid (y.back = back) := hide (by rw [← hy, past_back, ← hya, past_back, hx])
  have H1 := hide h1
  have H2 := hide h2
  have H3 := hide h3
  obtain ⟨fu, hfu⟩ : ∃ fu, further back a b = fu := ⟨_, rfl⟩
  rw [hfu] at HY3
  have HFU := hide hfu
  have hzf : fu.size ≤ 131072 := by
    rw [← hfu]; unfold further
    cases back
    · simp only; split <;> assumption
    · simp only; split <;> assumption
  clear hx hya hyb hy h1 h2 h3 hfu
  go_enter Try.func4, Try.ntmps4
  go_wp2_with fail
  refine (bytes9 f t a b k bd back _).mono ?_
  intro e w' h
  obtain ⟨ok, rfl, hw⟩ := h
  obtain rfl := hw.symm
  clear hw
  cases ok
  · go_wp2_with fail
    go_ret
    exact ⟨rfl, Below.refl _ _⟩
  go_upto_if 60 with fail
  go_cut [16] (fun s w' => s = .string fu ∧ w.alloc (.cells #[.string f, .string t, .bool bd, .bool back] 26) = w')
  case first =>
    cases back with
    | true =>
      cases hl : Op.bytesLess b.toList a.toList with
      | true =>
        go_wp2_with fail
        go_meet
        have e := unhide HFU
        simp [further, less, hl] at e
        exact ⟨by rw [e], rfl⟩
      | false =>
        go_wp2_with fail
        go_meet
        have e := unhide HFU
        simp [further, less, hl] at e
        exact ⟨by rw [e], rfl⟩
    | false =>
      cases hl : Op.bytesLess a.toList b.toList with
      | true =>
        go_wp2_with fail
        go_meet
        have e := unhide HFU
        simp [further, less, hl] at e
        exact ⟨by rw [e], rfl⟩
      | false =>
        go_wp2_with fail
        go_meet
        have e := unhide HFU
        simp [further, less, hl] at e
        exact ⟨by rw [e], rfl⟩
  case rest =>
    obtain ⟨rfl, rfl⟩ := hcut
    clear HFU
    -- past a, then b
    go_wp2_with fail
    refine (past6 ⟨f, t, bd, back⟩ ya a _ (by omega) HYA).mono ?_
    rintro e w1 ⟨rfl, hb1⟩
    have hz1 : w.heap.size < w1.heap.size := by have := hb1.size; simp at this; omega
    have HW1 : Hid (w1.heap[w.heap.size]? = some (.cells #[.string f, .string t, .bool bd, .bool back] 26 (0, 0))) := hide ((hb1.block w.heap.size (by simp)).trans (heap_alloc_new _ _))
    have HB1 : Hid (Below w.heap.size w w1) := hide (((Below.refl _ _).alloc (Nat.le_refl _) _).trans (hb1.mono (by simp)))
    clear hb1 HYA
    go_wp2_with fail
    refine (past6 ya y b _ (by omega) HY1).mono ?_
    rintro e w2 ⟨rfl, hb2⟩
    have hz2 : w.heap.size < w2.heap.size := by have := hb2.size; omega
    have HW2 := hide ((hb2.block w.heap.size hz1).trans (unhide HW1))
    have HB2 := hide ((unhide HB1).trans (hb2.mono (by omega)))
    clear hb2 HY1 HW1 HB1
    obtain ⟨⟨c0, c1, c2, c3⟩, _⟩ := block4 (unhide HW2)
    -- past b, then a
    have HW2' : Hid ((w2.alloc (.cells #[.string y.f, .string y.t, .bool y.b, .bool y.back] 26)).heap[w.heap.size]? = some (.cells #[.string f, .string t, .bool bd, .bool back] 26 (0, 0))) := hide ((Below.heap_alloc _ _ _ hz2).trans (unhide HW2))
    go_wp2_with fail
    refine (past6 ⟨f, t, bd, back⟩ yb b _ (by omega) HYB).mono ?_
    rintro e w3 ⟨rfl, hb3⟩
    have hz3 : w2.heap.size < w3.heap.size := by have := hb3.size; simp at this; omega
    have HW3 := hide ((hb3.block w.heap.size (by simp; omega)).trans (unhide HW2'))
    have HY3' : Hid (w3.heap[w2.heap.size]? = some (.cells #[.string y.f, .string y.t, .bool y.b, .bool y.back] 26 (0, 0))) := hide ((hb3.block w2.heap.size (by simp)).trans (heap_alloc_new _ _))
    have HB3 : Hid (Below w.heap.size w w3) := hide (((unhide HB2).alloc (by omega) _).trans (hb3.mono (by simp; omega)))
    clear hb3 HYB HW2 HW2' HB2 c0 c1 c2 c3
    go_wp2_with fail
    refine (past6 yb y a _ (by omega) HY2).mono ?_
    rintro e w4 ⟨rfl, hb4⟩
    have hz4 : w3.heap.size ≤ w4.heap.size := hb4.size
    have HW4 := hide ((hb4.block w.heap.size (by omega)).trans (unhide HW3))
    have HY4 := hide ((hb4.block w2.heap.size (by omega)).trans (unhide HY3'))
    have HB4 := hide ((unhide HB3).trans (hb4.mono (by omega)))
    clear hb4 HY2 HW3 HY3' HB3
    obtain ⟨⟨c0, c1, c2, c3⟩, _⟩ := block4 (unhide HW4)
    have hq : w.heap.size < w4.heap.size := by omega
    -- past the further
    go_wp2_with fail
    refine (past6 ⟨f, t, bd, back⟩ y fu _ (by omega) HY3).mono ?_
    rintro e w5 ⟨rfl, hb5⟩
    have hz5 : w4.heap.size < w5.heap.size := by have := hb5.size; simp at this; omega
    obtain ⟨⟨p0, p1, p2, p3⟩, _⟩ := block4 ((hb5.block w2.heap.size (by simp; omega)).trans ((Below.heap_alloc _ _ _ (by omega)).trans (unhide HY4)))
    obtain ⟨⟨q0, q1, q2, q3⟩, _⟩ := block4 ((hb5.block w4.heap.size (by simp)).trans (heap_alloc_new _ _))
    have HB5 : Hid (Below w.heap.size w (w5.alloc (.cells #[.string y.f, .string y.t, .bool y.b, .bool y.back] 26))) := hide ((((unhide HB4).alloc (by omega) _).trans (hb5.mono (by simp; omega))).alloc (by omega) _)
    have g1 : w2.heap.size < w5.heap.size := by omega
    clear hb5 HY3 HW4 HY4 HB4 c0 c1 c2 c3
    obtain ⟨yf, yt, yb', ybk⟩ := y
    obtain rfl : ybk = back := unhide HBK
    clear HBK
    go_wp2_with fail
    refine (holds7_of f t bd k R1 _ H1).mono ?_
    rintro e w' ⟨rfl, hw⟩
    obtain rfl := hw.symm
    clear hw
    cases R1 with
    | false =>
      go_wp2_with fail
      refine (holds7_of yf yt yb' k (false && R2 && R3) _ H4).mono ?_
      rintro e w' ⟨rfl, hw⟩
      obtain rfl := hw.symm
      clear hw
      go_wp2_with fail
      go_ret
      exact ⟨rfl, unhide HB5⟩
    | true =>
      go_wp2_with fail
      refine (beyond8_of ybk a k R2 _ H2).mono ?_
      rintro e w' ⟨rfl, hw⟩
      obtain rfl := hw.symm
      clear hw
      cases R2 with
      | false =>
        go_wp2_with fail
        refine (holds7_of yf yt yb' k (true && false && R3) _ H4).mono ?_
        rintro e w' ⟨rfl, hw⟩
        obtain rfl := hw.symm
        clear hw
        go_wp2_with fail
        go_ret
        exact ⟨rfl, unhide HB5⟩
      | true =>
        go_wp2_with fail
        refine (beyond8_of ybk b k R3 _ H3).mono ?_
        rintro e w' ⟨rfl, hw⟩
        obtain rfl := hw.symm
        clear hw
        go_wp2_with fail
        refine (holds7_of yf yt yb' k (true && true && R3) _ H4).mono ?_
        rintro e w' ⟨rfl, hw⟩
        obtain rfl := hw.symm
        clear hw
        cases R3
        all_goals
          go_wp2_with fail
          go_ret
          exact ⟨rfl, unhide HB5⟩

set_option maxHeartbeats 1000000 in
theorem long1 (f t a b k : ByteArray) (bd back : Bool) (w : World)  (z1 : ¬ f.size ≤ 131072) :
    Calls Try.prog 4 #[.string f, .string t, .bool bd, .bool back, .string a, .string b, .string k] w fun e w' => e = .returned (.bool true) ∧ Below w.heap.size w w' := by
  go_enter Try.func4, Try.ntmps4
  go_wp2_with fail
  refine (bytes9 f t a b k bd back _).mono ?_
  intro e w' h
  obtain ⟨ok, rfl, hw⟩ := h
  obtain rfl := hw.symm
  clear hw
  cases ok
  all_goals
    go_wp2_with fail
    go_ret
    exact ⟨rfl, Below.refl _ _⟩

set_option maxHeartbeats 1000000 in
theorem long2 (f t a b k : ByteArray) (bd back : Bool) (w : World) (z1 : f.size ≤ 131072) (z2 : ¬ t.size ≤ 131072) :
    Calls Try.prog 4 #[.string f, .string t, .bool bd, .bool back, .string a, .string b, .string k] w fun e w' => e = .returned (.bool true) ∧ Below w.heap.size w w' := by
  go_enter Try.func4, Try.ntmps4
  go_wp2_with fail
  refine (bytes9 f t a b k bd back _).mono ?_
  intro e w' h
  obtain ⟨ok, rfl, hw⟩ := h
  obtain rfl := hw.symm
  clear hw
  cases ok
  all_goals
    go_wp2_with fail
    go_ret
    exact ⟨rfl, Below.refl _ _⟩

set_option maxHeartbeats 1000000 in
theorem long3 (f t a b k : ByteArray) (bd back : Bool) (w : World) (z1 : f.size ≤ 131072) (z2 : t.size ≤ 131072) (z3 : ¬ a.size ≤ 131072) :
    Calls Try.prog 4 #[.string f, .string t, .bool bd, .bool back, .string a, .string b, .string k] w fun e w' => e = .returned (.bool true) ∧ Below w.heap.size w w' := by
  go_enter Try.func4, Try.ntmps4
  go_wp2_with fail
  refine (bytes9 f t a b k bd back _).mono ?_
  intro e w' h
  obtain ⟨ok, rfl, hw⟩ := h
  obtain rfl := hw.symm
  clear hw
  cases ok
  all_goals
    go_wp2_with fail
    go_ret
    exact ⟨rfl, Below.refl _ _⟩

set_option maxHeartbeats 1000000 in
theorem long4 (f t a b k : ByteArray) (bd back : Bool) (w : World) (z1 : f.size ≤ 131072) (z2 : t.size ≤ 131072) (z3 : a.size ≤ 131072) (z4 : ¬ b.size ≤ 131072) :
    Calls Try.prog 4 #[.string f, .string t, .bool bd, .bool back, .string a, .string b, .string k] w fun e w' => e = .returned (.bool true) ∧ Below w.heap.size w w' := by
  go_enter Try.func4, Try.ntmps4
  go_wp2_with fail
  refine (bytes9 f t a b k bd back _).mono ?_
  intro e w' h
  obtain ⟨ok, rfl, hw⟩ := h
  obtain rfl := hw.symm
  clear hw
  cases ok
  all_goals
    go_wp2_with fail
    go_ret
    exact ⟨rfl, Below.refl _ _⟩

set_option maxHeartbeats 1000000 in
theorem long5 (f t a b k : ByteArray) (bd back : Bool) (w : World) (z1 : f.size ≤ 131072) (z2 : t.size ≤ 131072) (z3 : a.size ≤ 131072) (z4 : b.size ≤ 131072) (z5 : ¬ k.size ≤ 131072) :
    Calls Try.prog 4 #[.string f, .string t, .bool bd, .bool back, .string a, .string b, .string k] w fun e w' => e = .returned (.bool true) ∧ Below w.heap.size w w' := by
  go_enter Try.func4, Try.ntmps4
  go_wp2_with fail
  refine (bytes9 f t a b k bd back _).mono ?_
  intro e w' h
  obtain ⟨ok, rfl, hw⟩ := h
  obtain rfl := hw.symm
  clear hw
  cases ok
  all_goals
    go_wp2_with fail
    go_ret
    exact ⟨rfl, Below.refl _ _⟩

theorem second_walk (f t a b k : ByteArray) (bd back : Bool) (w : World) :
    Calls Try.prog 4 #[.string f, .string t, .bool bd, .bool back, .string a, .string b, .string k] w fun e w' => e = .returned (.bool true) ∧ Below w.heap.size w w' := by
  by_cases z1 : f.size ≤ 131072
  · by_cases z2 : t.size ≤ 131072
    · by_cases z3 : a.size ≤ 131072
      · by_cases z4 : b.size ≤ 131072
        · by_cases z5 : k.size ≤ 131072
          · exact second_main f t a b k bd back w z1 z2 z3 z4 z5
          · exact long5 f t a b k bd back w z1 z2 z3 z4 z5
        · exact long4 f t a b k bd back w z1 z2 z3 z4
      · exact long3 f t a b k bd back w z1 z2 z3
    · exact long2 f t a b k bd back w z1 z2
  · exact long1 f t a b k bd back w z1

end Go.Proofs.Qxb6630620a
