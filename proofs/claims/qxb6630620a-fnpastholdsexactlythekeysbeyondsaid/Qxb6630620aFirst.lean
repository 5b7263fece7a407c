/-
  THE WALK of FnPastHoldsExactlyTheKeysBeyond (function 3).
-/
import Derived.Test.Qxb6630620aCallees
namespace Go.Proofs.Qxb6630620a
open Go.RowKit

/-- It says yes or no and turns nothing. -/
def YesNo (w : World) (e : Ending) (w' : World) : Prop := ∃ ok : Bool, e = .returned (.bool ok) ∧ w' = w

set_option maxHeartbeats 1000000 in
theorem bytes5 (f t key k : ByteArray) (b back : Bool) (w : World) :
    Calls Try.prog 5 #[.string f, .string t, .bool b, .bool back, .string key, .string k] w fun e w' => YesNo w e w' := by
  go_enter Try.func5, Try.ntmps5
  go_wp2
  all_goals
    go_ret
    exact ⟨_, rfl, rfl⟩

set_option maxHeartbeats 4000000 in
theorem first_walk (f t key k : ByteArray) (b back : Bool) (w : World) :
    Calls Try.prog 3 #[.string f, .string t, .bool b, .bool back, .string key, .string k] w fun e w' => e = .returned (.bool true) ∧ Below w.heap.size w w' := by
  go_enter Try.func3, Try.ntmps3
  go_wp2_with fail
  refine (bytes5 f t key k b back _).mono ?_
  intro e w' h
  obtain ⟨ok, rfl, hw⟩ := h
  obtain rfl := hw.symm
  clear hw
  cases ok
  · go_wp2_with fail
    go_ret
    exact ⟨rfl, Below.refl _ _⟩
  by_cases hsz : f.size ≤ 262144 ∧ t.size ≤ 262144 ∧ key.size ≤ 262144 ∧ k.size ≤ 262144
  · obtain ⟨z1, z2, z3, z4⟩ := hsz
    obtain ⟨x, hx⟩ : ∃ x : Wk, x = ⟨f, t, b, back⟩ := ⟨_, rfl⟩
    obtain ⟨y, hy⟩ : ∃ y : Wk, past x key = y := ⟨_, rfl⟩
    have HY : Hid (past ⟨f, t, b, back⟩ key = y) := hide (by rw [← hx]; exact hy)
    have HL := hide (past_holds x key k)
    obtain ⟨R1, h1⟩ : ∃ R, holds f t b k = R := ⟨_, rfl⟩
    obtain ⟨R2, h2⟩ : ∃ R, beyond back key k = R := ⟨_, rfl⟩
    have H3 : Hid (holds y.f y.t y.b k = (R1 && R2)) := hide (by
      have := unhide HL
      rw [hy, hx, h1, h2] at this
      exact this)
    have H1 := hide h1
    have H2 := hide h2
    have hback : y.back = back := by rw [← hy, past_back, hx]
    have hfar : (back = true → y.f = f) ∧ (back = false → y.t = t ∧ y.b = b) := by
      rw [← hy, hx]
      cases back with
      | true => exact ⟨fun _ => rfl, fun h => (by cases h)⟩
      | false => exact ⟨fun h => (by cases h), fun _ => ⟨rfl, rfl⟩⟩
    have HFAR := hide hfar
    have HBK := hide hback
    clear hx hy HL h1 h2 hback hfar
    go_wp2_with fail
    refine (past6 ⟨f, t, b, back⟩ y key _ (by omega) HY).mono ?_
    rintro e w1 ⟨rfl, hb1⟩
    obtain ⟨yf, yt, yb, ybk⟩ := y
    obtain rfl : ybk = back := unhide HBK
    have HB : Hid (Below w.heap.size w (w1.alloc (.cells #[.string yf, .string yt, .bool yb, .bool ybk] 26))) := hide ((((Below.refl _ _).alloc (Nat.le_refl _) _).trans (hb1.mono (by simp))).alloc (by have := hb1.size; simp at this; omega) _)
    clear hb1 HY
    cases ybk with
    | true =>
      obtain rfl : yf = f := (unhide HFAR).1 rfl
      clear HFAR HBK
      go_wp2_with fail
      refine (holds7_of yf t b k R1 _ H1).mono ?_
      rintro e w' ⟨rfl, hw⟩
      obtain rfl := hw.symm
      clear hw
      cases R1 with
      | true =>
        go_wp2_with fail
        refine (beyond8_of true key k R2 _ H2).mono ?_
        rintro e w' ⟨rfl, hw⟩
        obtain rfl := hw.symm
        clear hw
        go_wp2_with fail
        refine (holds7_of yf yt yb k (true && R2) _ H3).mono ?_
        rintro e w' ⟨rfl, hw⟩
        obtain rfl := hw.symm
        clear hw
        cases R2
        all_goals
          go_wp2_with fail
          go_ret
          exact ⟨rfl, unhide HB⟩
      | false =>
        go_wp2_with fail
        refine (holds7_of yf yt yb k (false && R2) _ H3).mono ?_
        rintro e w' ⟨rfl, hw⟩
        obtain rfl := hw.symm
        clear hw
        go_wp2_with fail
        go_ret
        exact ⟨rfl, unhide HB⟩
    | false =>
      obtain ⟨rfl, rfl⟩ : yt = t ∧ yb = b := (unhide HFAR).2 rfl
      clear HFAR HBK
      go_wp2_with fail
      refine (holds7_of f yt yb k R1 _ H1).mono ?_
      rintro e w' ⟨rfl, hw⟩
      obtain rfl := hw.symm
      clear hw
      cases R1 with
      | true =>
        go_wp2_with fail
        refine (beyond8_of false key k R2 _ H2).mono ?_
        rintro e w' ⟨rfl, hw⟩
        obtain rfl := hw.symm
        clear hw
        go_wp2_with fail
        refine (holds7_of yf yt yb k (true && R2) _ H3).mono ?_
        rintro e w' ⟨rfl, hw⟩
        obtain rfl := hw.symm
        clear hw
        cases R2
        all_goals
          go_wp2_with fail
          go_ret
          exact ⟨rfl, unhide HB⟩
      | false =>
        go_wp2_with fail
        refine (holds7_of yf yt yb k (false && R2) _ H3).mono ?_
        rintro e w' ⟨rfl, hw⟩
        obtain rfl := hw.symm
        clear hw
        go_wp2_with fail
        go_ret
        exact ⟨rfl, unhide HB⟩
  · by_cases z1 : f.size ≤ 262144
    · by_cases z2 : t.size ≤ 262144
      · by_cases z3 : key.size ≤ 262144
        · have z4 : ¬ k.size ≤ 262144 := fun h => hsz ⟨z1, z2, z3, h⟩
          clear hsz
          go_wp2_with fail
          go_ret
          exact ⟨rfl, Below.refl _ _⟩
        · clear hsz
          go_wp2_with fail
          go_ret
          exact ⟨rfl, Below.refl _ _⟩
      · clear hsz
        go_wp2_with fail
        go_ret
        exact ⟨rfl, Below.refl _ _⟩
    · clear hsz
      go_wp2_with fail
      go_ret
      exact ⟨rfl, Below.refl _ _⟩

end Go.Proofs.Qxb6630620a
