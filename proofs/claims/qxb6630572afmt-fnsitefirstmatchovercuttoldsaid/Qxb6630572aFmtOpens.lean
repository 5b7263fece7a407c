/-
  THE ARGUMENTS OPENED: a slice of sites, a site by value.
-/
import Derived.Test.Qxb6630572aFmtRows
import Derived.Test.Qxb6630572aFmtCallees
import Derived.WalkKit
import Derived.ProofKit
import Derived.Deep.Slices
import Derived.Deep.Strs
import Derived.Lib.SmallJoins
namespace Go.Proofs.Qxb6630572aFmt
open Go.ChangeShapes Go.WideShapes Go.ChangeAt Go.RowKit Go.Deep Go.Joins

theorem list_of {p : Nat → St → Prop} (n : Nat) (h : ∀ i, i < n → ∃ s, p i s) : ∃ ss : List St, ss.length = n ∧ ∀ i s, ss[i]? = some s → p i s := by
  induction n with
  | zero => exact ⟨[], rfl, fun i s hs => by simp at hs⟩
  | succ n ih =>
    obtain ⟨ss, hl, hs⟩ := ih (fun i hi => h i (by omega))
    obtain ⟨s, hn⟩ := h n (by omega)
    refine ⟨ss ++ [s], by simp [hl], fun i u hu => ?_⟩
    by_cases hi : i < n
    · rw [List.getElem?_append_left (by omega)] at hu; exact hs i u hu
    · have hin : i = n := by have := (List.getElem?_eq_some_iff.1 hu).1; simp at this; omega
      subst hin
      rw [List.getElem?_append_right (by omega)] at hu
      simp [hl] at hu
      subst hu; exact hn

theorem cells40 : Tryf.prog.cellsOf 40 = 3 := by kernel_rfl
theorem cells3 : Tryf.prog.cellsOf 3 = 1 := by kernel_rfl
theorem cells9 : Tryf.prog.cellsOf 9 = 1 := by kernel_rfl

theorem open_sites {H : Type} {enc : TypeId × Value → H} {W : World} {a0 : Option Addr} {len cap fuel : Nat} {x : DataW H × List MemPlace} (hf : DataW.trod enc Tryf.prog W 0 (fun _ => true) true fuel 22 [.slice a0 len cap] = some x) :
    ∃ ss, Row W a0 len ss ∧ len ≤ cap ∧ (a0 = none → len = 0 ∧ cap = 0) := by
  rcases open_slice Tryf.underlying22 hf with ⟨hcs, _⟩ | ⟨a, len', cap', m, n, D, Pl, hcs, _, hl, hm, hmm, _, hx⟩
  · simp at hcs
    obtain ⟨rfl, rfl, rfl⟩ := hcs
    exact ⟨[], ⟨rfl, .inl rfl⟩, Nat.le_refl _, fun _ => ⟨rfl, rfl⟩⟩
  · simp at hcs
    obtain ⟨rfl, rfl, rfl⟩ := hcs
    simp only [if_true] at hmm
    by_cases h0 : len = 0
    · exact ⟨[], ⟨h0.symm, .inl h0⟩, hl, fun h => by cases h⟩
    have key : ∀ i, i < len → ∃ s : St, W.cell? (a.add (i * 3)) = some (.int .i64 s.id) ∧ W.cell? ((a.add (i * 3)).add 1) = some (.string s.a) ∧ W.cell? ((a.add (i * 3)).add 2) = some (.string s.b) := by
      intro i hi
      obtain ⟨cs', hc, ht⟩ := hx i (by omega)
      rw [cells40] at hc
      obtain ⟨y0, y1, y2, k, _, hlen, t0, t1, t2⟩ := trod_struct3 Tryf.underlying40 ht
      rw [cells40] at hlen
      obtain ⟨_, hlen', hcell⟩ := World.cells?_some hc
      match cs', hlen with
      | [c0, c1, c2], _ =>
        rw [cells3] at t0
        rw [cells9] at t1 t2
        obtain ⟨z, e0, _, _⟩ := DataW.trod_int Tryf.underlying3 t0
        obtain ⟨s1, e1, _, _⟩ := DataW.trod_string Tryf.underlying9 t1
        obtain ⟨s2, e2, _, _⟩ := DataW.trod_string Tryf.underlying9 t2
        simp at e0 e1 e2
        subst e0 e1 e2
        refine ⟨⟨z, s1, s2⟩, ?_, ?_, ?_⟩
        · have := hcell 0 (by omega)
          rw [add_add] at this
          simpa using this
        · simpa using hcell 1 (by omega)
        · simpa using hcell 2 (by omega)
    obtain ⟨b, off, spot⟩ := a
    have hspot : spot = none := by
      obtain ⟨s, h1, _⟩ := key 0 (by omega)
      simpa [Addr.add] using World.cell?_spot h1
    subst hspot
    have key' : ∀ i, i < len → ∃ s : St, At W b (off + i * 3) s := by
      intro i hi
      obtain ⟨s, h1, h2, h3⟩ := key i hi
      simp only [Addr.add_lit] at h1 h2 h3
      exact ⟨s, h1, h2, h3⟩
    have hb : b < W.heap.size := by
      obtain ⟨s, h1, _⟩ := key' 0 (by omega)
      exact World.block_lt_of_cell? W _ h1
    obtain ⟨ss, hs, hat⟩ := list_of len key'
    exact ⟨ss, ⟨hs, .inr ⟨b, off, rfl, hb, hat⟩⟩, hl, fun h => by cases h⟩

end Go.Proofs.Qxb6630572aFmt
