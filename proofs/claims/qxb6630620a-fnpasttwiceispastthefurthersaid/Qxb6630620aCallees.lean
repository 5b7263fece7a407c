/-
  THE CALLEES' CONTRACTS of seat b6630620a.
-/
import Derived.Test.Qxb6630620aProg
import Derived.Test.Qxb6630620aPlain
import Derived.WalkKit
import Derived.WalkSpells
import Derived.WalkLawsBesides
import Derived.Deep.RegionWith
import Derived.Deep.DeepCutAuto
namespace Go.Proofs.Qxb6630620a
open Go.RowKit

theorem hide {p : Prop} (h : p) : Hid p := h
theorem unhide {p : Prop} (h : Hid p) : p := h

theorem run_max_str (P : Program) (w : World) (ts : Array TypeId) (t : TypeId) (x y : ByteArray) : (Builtin.max_ ts t #[.string x, .string y]).run P w = .ok (.string (mx x y)) w := by
  simp [Builtin.max_, Builtin.max2, Op.stringOp, asBool, mx, less]
  by_cases h : Op.bytesLess x.toList y.toList = true <;> simp [h]

set_option maxHeartbeats 400000 in
theorem succ11 (k : ByteArray) (w : World) (h : k.size ≤ 1048576) :
    Calls Try.prog 11 #[.string k] w fun e w' => e = .returned (.string (succ k)) ∧ w' = w := by
  have hs : ∀ w, (Op.stringOp .add k ⟨#[0]⟩).run Try.prog w = .ok (.string (succ k)) w := fun w => run_string_add_sum w k ⟨#[0]⟩ (by rw [show (⟨#[0]⟩ : ByteArray).size = 1 from rfl]; omega)
  go_enter Try.func11, Try.ntmps11
  go_wp2
  go_ret
  exact ⟨rfl, rfl⟩

set_option maxHeartbeats 1000000 in
theorem holds7 (f t : ByteArray) (b : Bool) (k : ByteArray) (w : World) :
    Calls Try.prog 7 #[.string f, .string t, .bool b, .string k] w fun e w' => e = .returned (.bool (holds f t b k)) ∧ w' = w := by
  obtain ⟨R, hR⟩ : ∃ R, holds f t b k = R := ⟨_, rfl⟩
  rw [hR]
  have HR := hide hR
  clear hR
  cases h1 : Op.bytesLess k.toList f.toList with
  | true =>
    go_enter Try.func7, Try.ntmps7
    go_wp2
    go_ret
    have := unhide HR
    simp [holds, less, h1] at this
    subst this
    exact ⟨rfl, rfl⟩
  | false =>
    cases b with
    | false =>
      go_enter Try.func7, Try.ntmps7
      go_wp2
      go_ret
      have := unhide HR
      simp [holds, less, h1] at this
      subst this
      exact ⟨rfl, rfl⟩
    | true =>
      cases h2 : Op.bytesLess k.toList t.toList with
      | true =>
        go_enter Try.func7, Try.ntmps7
        go_wp2
        go_ret
        have := unhide HR
        simp [holds, less, h1, h2] at this
        subst this
        exact ⟨rfl, rfl⟩
      | false =>
        go_enter Try.func7, Try.ntmps7
        go_wp2
        go_ret
        have := unhide HR
        simp [holds, less, h1, h2] at this
        subst this
        exact ⟨rfl, rfl⟩

set_option maxHeartbeats 400000 in
theorem beyond8 (back : Bool) (key k : ByteArray) (w : World) :
    Calls Try.prog 8 #[.bool back, .string key, .string k] w fun e w' => e = .returned (.bool (beyond back key k)) ∧ w' = w := by
  cases back with
  | true =>
    go_enter Try.func8, Try.ntmps8
    go_wp2
    go_ret
    exact ⟨rfl, rfl⟩
  | false =>
    go_enter Try.func8, Try.ntmps8
    go_wp2
    go_ret
    exact ⟨rfl, rfl⟩

set_option maxHeartbeats 1000000 in
/-- And with a span from s on. -/
theorem and10_from (f t s : ByteArray) (b : Bool) (w : World) :
    Calls Try.prog 10 #[.agg #[.string f, .string t, .bool b], .agg #[.string s, .string ⟨#[]⟩, .bool false]] w fun e w' => e = .returned (.agg #[.string (mx f s), .string t, .bool b]) ∧ Below w.heap.size w w' := by
  have hmx := run_max_str Try.prog
  go_enter Try.func10, Try.ntmps10
  go_wp2
  exact bodyPost_ret (v := .agg #[.string (mx f s), .string t, .bool b]) (by simp [results, Try.results10, go_sem]) rfl ⟨rfl, (((Below.refl _ _).alloc (Nat.le_refl _) _).alloc (by simp) _).alloc (by simp; omega) _⟩

set_option maxHeartbeats 1000000 in
/-- And with a span up to key. -/
theorem and10_to (f t key : ByteArray) (b : Bool) (w : World) :
    Calls Try.prog 10 #[.agg #[.string f, .string t, .bool b], .agg #[.string ⟨#[]⟩, .string key, .bool true]] w fun e w' => e = .returned (.agg #[.string f, .string (cap t b key), .bool true]) ∧ Below w.heap.size w w' := by
  have hmx := run_max_str Try.prog
  have hn := mx_nil f
  obtain ⟨c, hc⟩ : ∃ c, cap t b key = c := ⟨_, rfl⟩
  rw [hc]
  have HC := hide hc
  clear hc
  cases b with
  | false =>
    go_enter Try.func10, Try.ntmps10
    go_wp2
    obtain rfl : key = c := by have := unhide HC; simpa [cap] using this
    exact bodyPost_ret (v := .agg #[.string f, .string key, .bool true]) (by simp [results, Try.results10, go_sem]) rfl ⟨rfl, (((Below.refl _ _).alloc (Nat.le_refl _) _).alloc (by simp) _).alloc (by simp; omega) _⟩
  | true =>
    cases h1 : Op.bytesLess key.toList t.toList with
    | true =>
      go_enter Try.func10, Try.ntmps10
      go_wp2
      obtain rfl : key = c := by have := unhide HC; simpa [cap, less, h1] using this
      exact bodyPost_ret (v := .agg #[.string f, .string key, .bool true]) (by simp [results, Try.results10, go_sem]) rfl ⟨rfl, (((Below.refl _ _).alloc (Nat.le_refl _) _).alloc (by simp) _).alloc (by simp; omega) _⟩
    | false =>
      go_enter Try.func10, Try.ntmps10
      go_wp2
      obtain rfl : t = c := by have := unhide HC; simpa [cap, less, h1] using this
      exact bodyPost_ret (v := .agg #[.string f, .string t, .bool true]) (by simp [results, Try.results10, go_sem]) rfl ⟨rfl, (((Below.refl _ _).alloc (Nat.le_refl _) _).alloc (by simp) _).alloc (by simp; omega) _⟩

theorem block4 {w : World} {g : Nat} {a b c d : Value} {t : TypeId} (h : w.heap[g]? = some (.cells #[a, b, c, d] t (0, 0))) :
    (w.cell? ⟨g, 0, none⟩ = some a ∧ w.cell? ⟨g, 1, none⟩ = some b ∧ w.cell? ⟨g, 2, none⟩ = some c ∧ w.cell? ⟨g, 3, none⟩ = some d) ∧
    (w.frozen? ⟨g, 0, none⟩ = false ∧ w.frozen? ⟨g, 1, none⟩ = false ∧ w.frozen? ⟨g, 2, none⟩ = false ∧ w.frozen? ⟨g, 3, none⟩ = false) := by
  refine ⟨⟨?_, ?_, ?_, ?_⟩, frozen_of_row _ _ _ _ _ h, frozen_of_row _ _ _ _ _ h, frozen_of_row _ _ _ _ _ h, frozen_of_row _ _ _ _ _ h⟩
  all_goals (rw [cell_of_row _ _ _ _ _ _ h]; rfl)

set_option maxHeartbeats 2000000 in
theorem past6_back (f t key : ByteArray) (b : Bool) (w : World) :
    Calls Try.prog 6 #[.agg #[.string f, .string t, .bool b, .bool true], .string key] w fun e w' => e = .returned (.agg #[.string f, .string (cap t b key), .bool true, .bool true]) ∧ Below w.heap.size w w' := by
  go_enter Try.func6, Try.ntmps6
  go_wp2_with fail
  refine (and10_to f t key b _).mono ?_
  rintro e w1 ⟨rfl, hb⟩
  have HB : Hid (Below w.heap.size w w1) := hide ((((Below.refl _ _).alloc (Nat.le_refl _) _).alloc (by simp) _).trans (hb.mono (by simp; omega)))
  obtain ⟨⟨c0, c1, c2, c3⟩, f0, f1, f2, f3⟩ := block4 ((hb.block w.heap.size (by simp; omega)).trans (heap_alloc2_old _ _ _))
  obtain ⟨⟨d0, d1, d2, d3⟩, e0, e1, e2, e3⟩ := block4 ((hb.block (w.heap.size + 1) (by simp)).trans (heap_alloc2_new _ _ _))
  clear hb
  go_wp2_with fail
  refine bodyPost_ret (v := .agg #[.string f, .string (cap t b key), .bool true, .bool true]) (by simp [results, Try.results6, go_sem, d0, d1, d2, d3]) rfl ⟨rfl, ?_⟩
  repeat (refine Below.setCell ?_ (by simp) _)
  exact unhide HB

set_option maxHeartbeats 2000000 in
theorem past6_fwd (f t key : ByteArray) (b : Bool) (w : World) (hk : key.size ≤ 1048576) :
    Calls Try.prog 6 #[.agg #[.string f, .string t, .bool b, .bool false], .string key] w fun e w' => e = .returned (.agg #[.string (mx f (succ key)), .string t, .bool b, .bool false]) ∧ Below w.heap.size w w' := by
  go_enter Try.func6, Try.ntmps6
  go_wp2_with fail
  go_region_with (first | (go_at_call 11; refine (succ11 key _ hk).mono ?_; rintro e w0 ⟨rfl, hw⟩; obtain rfl := hw.symm; clear hw) | (go_at_call 10; refine (and10_from f t (succ key) b _).mono ?_; rintro e w1 ⟨rfl, hb⟩; have HB : Hid (Below w.heap.size w w1) := hide (((((Below.refl _ _).alloc (Nat.le_refl _) _).alloc (by simp) _).drew).trans (hb.mono (by simp; omega))); obtain ⟨⟨c0, c1, c2, c3⟩, f0, f1, f2, f3⟩ := block4 ((hb.block w.heap.size (by simp; omega)).trans (heap_alloc2_old _ _ _)); obtain ⟨⟨d0, d1, d2, d3⟩, e0, e1, e2, e3⟩ := block4 ((hb.block (w.heap.size + 1) (by simp)).trans (heap_alloc2_new _ _ _)); clear hb))
  all_goals
    go_wp2_with fail
    refine bodyPost_ret (v := .agg #[.string (mx f (succ key)), .string t, .bool b, .bool false]) (by simp [results, Try.results6, go_sem, d0, d1, d2, d3]) rfl ⟨rfl, ?_⟩
    repeat (refine Below.setCell ?_ (by simp) _)
    exact unhide HB

/-- A walk's value. -/
def Wk.val (x : Wk) : Value := .agg #[.string x.f, .string x.t, .bool x.b, .bool x.back]

theorem past6 (x y : Wk) (key : ByteArray) (w : World) (hk : key.size ≤ 1048576) (h : Hid (past x key = y)) :
    Calls Try.prog 6 #[.agg #[.string x.f, .string x.t, .bool x.b, .bool x.back], .string key] w fun e w' => e = .returned (.agg #[.string y.f, .string y.t, .bool y.b, .bool y.back]) ∧ Below w.heap.size w w' := by
  rw [← h.out]
  obtain ⟨f, t, b, back⟩ := x
  cases back with
  | true => exact past6_back f t key b w
  | false => exact past6_fwd f t key b w hk

theorem holds7_of (f t : ByteArray) (b : Bool) (k : ByteArray) (R : Bool) (w : World) (h : Hid (holds f t b k = R)) :
    Calls Try.prog 7 #[.string f, .string t, .bool b, .string k] w fun e w' => e = .returned (.bool R) ∧ w' = w := by
  rw [← h.out]; exact holds7 f t b k w

theorem beyond8_of (back : Bool) (key k : ByteArray) (R : Bool) (w : World) (h : Hid (beyond back key k = R)) :
    Calls Try.prog 8 #[.bool back, .string key, .string k] w fun e w' => e = .returned (.bool R) ∧ w' = w := by
  rw [← h.out]; exact beyond8 back key k w

end Go.Proofs.Qxb6630620a
