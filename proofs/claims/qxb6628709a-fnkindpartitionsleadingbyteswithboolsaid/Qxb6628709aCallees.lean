/-
  THE CALLEES' CONTRACTS of the two laws of seat b6628709a: the bound on lengths, the tag's kind, ZZnewValue, Kind, Bool.
-/
import Derived.Test.Qxb6628709aProg
import Derived.WalkKit
import Derived.WalkSpells
import Derived.WalkLawsBesides
namespace Go.Proofs.Qxb6628709a
open Go.RowKit

/-- The kind that a leading byte names. -/
def kindOf (c : Int) : Int :=
  if c == 102 then 1 else if c == 116 then 1 else if c == 35 then 2 else if c == 46 then 2 else if c == 115 then 3 else if c == 91 then 4 else if c == 123 then 5 else if c == 42 then 6 else 0

/-- The tag alphabet. -/
def tagAt (k : Nat) : Int := ([102, 116, 35, 46, 115, 91, 123, 42] : List Int).getD k 0

theorem kind_none {x : Int} (h : ∀ j, j < 8 → tagAt j ≠ x) : kindOf x = 0 := by
  have h0 := h 0 (by omega); have h1 := h 1 (by omega); have h2 := h 2 (by omega); have h3 := h 3 (by omega)
  have h4 := h 4 (by omega); have h5 := h 5 (by omega); have h6 := h 6 (by omega); have h7 := h 7 (by omega)
  simp [tagAt] at h0 h1 h2 h3 h4 h5 h6 h7
  simp [kindOf, Ne.symm h0, Ne.symm h1, Ne.symm h2, Ne.symm h3, Ne.symm h4, Ne.symm h5, Ne.symm h6, Ne.symm h7]

theorem ne_succ {x : Int} {k : Nat} (h : ∀ j, j < k → tagAt j ≠ x) (hk : tagAt k ≠ x) : ∀ j, j < k + 1 → tagAt j ≠ x := by
  intro j hj
  by_cases e : j = k
  · subst e; exact hk
  · exact h j (by omega)

theorem ret_int {k : IntKind} {a b : Int} (h : a = b) : Ending.returned (.int k a) = .returned (.int k b) := by rw [h]

set_option maxHeartbeats 400000 in
theorem bytes5_yes (a0 a1 : Option Addr) (l0 c0 l1 c1 : Nat) (w : World) (h : l0 + l1 ≤ 1048576) :
    Calls Try.prog 5 #[.slice a0 l0 c0, .slice a1 l1 c1] w fun e w' => e = .returned (.bool true) ∧ w' = w := by
  go_enter Try.func5, Try.ntmps5
  go_wp2
  go_ret
  exact ⟨rfl, rfl⟩

set_option maxHeartbeats 400000 in
theorem bytes5_no (a0 a1 : Option Addr) (l0 c0 l1 c1 : Nat) (w : World) (h : ¬ l0 + l1 ≤ 1048576) (h0 : l0 ≤ maxLen) (h1 : l1 ≤ maxLen) :
    Calls Try.prog 5 #[.slice a0 l0 c0, .slice a1 l1 c1] w fun e w' => e = .returned (.bool false) ∧ w' = w := by
  unfold maxLen at h0 h1
  go_enter Try.func5, Try.ntmps5
  go_wp2
  all_goals
    go_ret
    exact ⟨rfl, rfl⟩

set_option maxHeartbeats 400000 in
theorem new7 (a : Option Addr) (l c : Nat) (w : World) :
    Calls Try.prog 7 #[.slice a l c] w fun e w' => e = .returned (.agg #[.slice a l c]) ∧ Below w.heap.size w w' := by
  go_enter Try.func7, Try.ntmps7
  go_wp2
  exact bodyPost_ret (v := .agg #[.slice a l c]) (by simp [results, Try.results7, go_sem]) rfl ⟨rfl, (Below.refl _ _).alloc (Nat.le_refl _) _⟩

set_option maxHeartbeats 400000 in
theorem kind8_nil (a : Option Addr) (c : Nat) (w : World) :
    Calls Try.prog 8 #[.agg #[.slice a 0 c]] w fun e w' => e = .returned (.int .i64 0) ∧ Below w.heap.size w w' := by
  go_enter Try.func8, Try.ntmps8
  go_wp2
  go_ret
  exact ⟨rfl, (Below.refl _ _).alloc (Nat.le_refl _) _⟩

set_option maxHeartbeats 1000000 in
theorem kind8_some (b off l c : Nat) (x : Int) (w : World) (hl : 0 < l) (hb : b < w.heap.size) (hc : w.cell? ⟨b, off, none⟩ = some (.int .u8 x)) :
    Calls Try.prog 8 #[.agg #[.slice (some ⟨b, off, none⟩) l c]] w fun e w' => e = .returned (.int .i64 (kindOf x)) ∧ Below w.heap.size w w' := by
  have hl' : ((l : Int) == 0) = false := by simp; omega
  go_enter Try.func8, Try.ntmps8
  go_wp2
  all_goals
    go_ret
    refine ⟨ret_int ?_, (Below.refl _ _).alloc (Nat.le_refl _) _⟩
    simp only [kindOf, *, if_true, if_false, Bool.false_eq_true]

set_option maxHeartbeats 1000000 in
theorem tag6 (x : Int) (w : World) :
    Calls Try.prog 6 #[.int .u8 x] w fun e w' => e = .returned (.int .i64 (kindOf x)) ∧ w' = w := by
  go_enter Try.func6, Try.ntmps6
  go_wp2
  go_loop [3] (fun i => ∃ k : Nat, k ≤ 8 ∧ i = .int .i64 k ∧ ∀ j, j < k → tagAt j ≠ x) (fun i => 8 - (intOf i).toNat)
  case atStart => exact ⟨0, by omega, rfl, fun j hj => by omega⟩
  case round =>
    obtain ⟨k, hk, rfl, hne⟩ := hrel
    have H : Hid (∀ j, j < k → tagAt j ≠ x) := hne
    clear hne
    by_cases h8 : k = 8
    · subst h8
      go_wp2
      go_ret
      exact ⟨ret_int (kind_none H.out).symm, rfl⟩
    obtain rfl | rfl | rfl | rfl | rfl | rfl | rfl | rfl : k = 0 ∨ k = 1 ∨ k = 2 ∨ k = 3 ∨ k = 4 ∨ k = 5 ∨ k = 6 ∨ k = 7 := by omega
    all_goals clear h8 hk
    all_goals
      go_wp2
      · go_ret
        refine ⟨ret_int ?_, rfl⟩
        have hx : _ = x := beq_iff_eq.1 (by assumption)
        subst hx; rfl
      · go_round
        case rel => exact ⟨_ + 1, by omega, rfl, ne_succ H.out (beq_eq_false_iff_ne.1 (by assumption))⟩
        case measure => simp [intOf]

end Go.Proofs.Qxb6628709a
