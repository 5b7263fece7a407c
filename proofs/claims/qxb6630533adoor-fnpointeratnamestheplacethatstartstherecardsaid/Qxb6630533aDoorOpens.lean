/-
  THE ARGUMENT OPENED: a node that reads as data is a tree of some depth, as the walks want it.
-/
import Derived.Test.Qxb6630533aDoorMem
import Derived.Test.Qxb6630533aDoorRows
import Derived.ProofKit
import Derived.Deep.Slices
import Derived.Deep.Strs
import Derived.Lib.SmallJoins
namespace Go.Proofs.Qxb6630533aDoor
open Go.ChangeShapes Go.WideShapes Go.ChangeAt Go.RowKit Go.Deep Go.Joins

theorem list_of {β : Type} {p : Nat → β → Prop} (n : Nat) (h : ∀ i, i < n → ∃ s, p i s) : ∃ ss : List β, ss.length = n ∧ ∀ i s, ss[i]? = some s → p i s := by
  induction n with
  | zero => exact ⟨[], rfl, fun i s hs => by simp at hs⟩
  | succ n ih =>
    obtain ⟨ss, hl, hs⟩ := ih (fun i hi => h i (by omega))
    obtain ⟨s, hn⟩ := h n (by omega)
    refine ⟨ss ++ [s], by simp [hl], fun i u hu => ?_⟩
    by_cases hi : i < n
    · rw [List.getElem?_append_left (by omega)] at hu; exact hs i u hu
    · have hin : i = n := by have := (List.getElem?_eq_some_iff.1 hu).1; simp at this; omega
      subst hin
      rw [List.getElem?_append_right (by omega)] at hu
      simp [hl] at hu
      subst hu; exact hn

theorem cells25 : Tryd.prog.cellsOf 25 = 5 := by kernel_rfl
theorem cells41 : Tryd.prog.cellsOf 41 = 7 := by kernel_rfl
theorem cells5 : Tryd.prog.cellsOf 5 = 1 := by kernel_rfl
theorem cells3 : Tryd.prog.cellsOf 3 = 1 := by kernel_rfl
theorem cells9 : Tryd.prog.cellsOf 9 = 1 := by kernel_rfl
theorem cells22 : Tryd.prog.cellsOf 22 = 1 := by kernel_rfl
theorem cells23 : Tryd.prog.cellsOf 23 = 1 := by kernel_rfl

theorem open_rw {H : Type} {enc : TypeId × Value → H} {W : World} {β : Type} {sz k : Nat} {t e : TypeId} (ht : Tryd.prog.underlying t = some (.slice e)) (hce : Tryd.prog.cellsOf e = sz) (hsz : 0 < sz) (p : List Value → β → Prop)
    (hel : ∀ cs x, DataW.trod enc Tryd.prog W 0 (fun _ => true) true k e cs = some x → ∃ u, p cs u) {cs : List Value} {x : DataW H × List MemPlace} (h : DataW.trod enc Tryd.prog W 0 (fun _ => true) true (k + 1) t cs = some x) :
    ∃ a len cap, cs = [.slice a len cap] ∧ (a = none → len = 0) ∧ len ≤ maxLen ∧ ∃ xs, Rw W 0 sz p a len xs := by
  rcases DataW.trod_slice ht h with ⟨rfl, _⟩ | ⟨a, len, cap, elems, rest, n, hk, rfl, _, _, hl, hm, hlen, hx, _, _⟩
  · exact ⟨none, 0, 0, rfl, fun _ => rfl, Nat.zero_le _, [], rfl, .inl rfl⟩
  · obtain rfl : k = n := by omega
    refine ⟨some a, len, cap, rfl, (fun h => (by cases h)), by omega, ?_⟩
    by_cases h0 : len = 0
    · exact ⟨[], h0.symm, .inl h0⟩
    have key : ∀ i, i < len → ∃ u : β, ∃ cs, cs.length = sz ∧ (∀ j, j < sz → W.cell? ((a.add (i * sz)).add j) = cs[j]?) ∧ p cs u := by
      intro i hi
      have h1 := hx i hi
      rw [List.getElem?_eq_getElem (by omega), hce] at h1
      obtain ⟨cs', hc, ht'⟩ := Option.bind_eq_some_iff.1 h1
      obtain ⟨_, hlen', hcell⟩ := World.cells?_some hc
      obtain ⟨u, hu⟩ := hel cs' _ ht'
      exact ⟨u, cs', hlen', hcell, hu⟩
    obtain ⟨b, off, spot⟩ := a
    have hs0 : ∃ v, W.cell? (((⟨b, off, spot⟩ : Addr).add (0 * sz)).add 0) = some v := by
      obtain ⟨u, cs, h1, h2, _⟩ := key 0 (by omega)
      exact ⟨cs[0]'(by omega), by rw [h2 0 hsz]; simp⟩
    have hspot : spot = none := by
      obtain ⟨v, hv⟩ := hs0
      simpa [Addr.add] using World.cell?_spot hv
    subst hspot
    have hb : b < W.heap.size := by
      obtain ⟨v, hv⟩ := hs0
      have := World.block_lt_of_cell? W _ hv
      simpa [Addr.add] using this
    have key' : ∀ i, i < len → ∃ u : β, ∃ cs, cs.length = sz ∧ Cells W b (off + i * sz) cs ∧ p cs u := by
      intro i hi
      obtain ⟨u, cs, h1, h2, h3⟩ := key i hi
      refine ⟨u, cs, h1, fun j hj => ?_, h3⟩
      have := h2 j (by omega)
      simp only [Addr.add_lit] at this
      exact this
    obtain ⟨xs, hxl, hxs⟩ := list_of len key'
    exact ⟨xs, hxl, .inr ⟨b, off, rfl, Nat.zero_le _, hb, hxs⟩⟩

theorem open_node {H : Type} {enc : TypeId × Value → H} {W : World} : ∀ (fuel : Nat) (cs : List Value) (x : DataW H × List MemPlace), DataW.trod enc Tryd.prog W 0 (fun _ => true) true fuel 25 cs = some x → ∃ t : Tr fuel, InN W 0 fuel cs t := by
  intro fuel
  induction fuel with
  | zero => intro cs x h; simp [DataW.trod] at h
  | succ n ih =>
    intro cs x h
    obtain ⟨xs, n', hn, _, hl, hxl, hf⟩ := DataW.trod_struct Tryd.underlying25 h
    obtain rfl : n = n' := by omega
    rw [cells25] at hl
    match xs, hxl, cs, hl with
    | [x0, x1, x2, x3, x4], _, [c0, c1, c2, c3, c4], _ =>
      have t0 : DataW.trod enc Tryd.prog W 0 (fun _ => true) true n 5 (([c0, c1, c2, c3, c4].drop 0).take (Tryd.prog.cellsOf 5)) = some x0 := hf 0 _ rfl
      have t1 : DataW.trod enc Tryd.prog W 0 (fun _ => true) true n 3 (([c0, c1, c2, c3, c4].drop 1).take (Tryd.prog.cellsOf 3)) = some x1 := hf 1 _ rfl
      have t2 : DataW.trod enc Tryd.prog W 0 (fun _ => true) true n 3 (([c0, c1, c2, c3, c4].drop 2).take (Tryd.prog.cellsOf 3)) = some x2 := hf 2 _ rfl
      have t3 : DataW.trod enc Tryd.prog W 0 (fun _ => true) true n 22 (([c0, c1, c2, c3, c4].drop 3).take (Tryd.prog.cellsOf 22)) = some x3 := hf 3 _ rfl
      have t4 : DataW.trod enc Tryd.prog W 0 (fun _ => true) true n 23 (([c0, c1, c2, c3, c4].drop 4).take (Tryd.prog.cellsOf 23)) = some x4 := hf 4 _ rfl
      rw [cells5] at t0
      rw [cells3] at t1 t2
      rw [cells22] at t3
      rw [cells23] at t4
      obtain ⟨kind, e0, _, w0⟩ := DataW.trod_int Tryd.underlying5 t0
      obtain ⟨off, e1, _, w1⟩ := DataW.trod_int Tryd.underlying3 t1
      obtain ⟨fin, e2, _, w2⟩ := DataW.trod_int Tryd.underlying3 t2
      simp at e0 e1 e2
      subst e0 e1 e2
      cases n with
      | zero => simp [DataW.trod] at t3
      | succ k =>
        obtain ⟨ea, el, ec, e3, hna, hm1, els, hE⟩ := open_rw Tryd.underlying22 cells25 (by decide) (InN W 0 (k + 1)) (fun cs x h => ih cs x (DataW.trod_le (Nat.le_succ k) h)) t3
        obtain ⟨ma, ml, mc, e4, hnm, hm2, mem, hM⟩ := open_rw Tryd.underlying23 cells41 (by decide) (MemP (InN W 0 (k + 1))) (fun cs x h => (by
          obtain ⟨ys, k', hk, _, hl, hyl, hg⟩ := DataW.trod_struct Tryd.underlying41 h
          rw [cells41] at hl
          match ys, hyl, cs, hl with
          | [y0, y1, y2], _, [d0, d1, d2, d3, d4, d5, d6], _ =>
            have u0 : DataW.trod enc Tryd.prog W 0 (fun _ => true) true k' 9 (([d0, d1, d2, d3, d4, d5, d6].drop 0).take (Tryd.prog.cellsOf 9)) = some y0 := hg 0 _ rfl
            have u1 : DataW.trod enc Tryd.prog W 0 (fun _ => true) true k' 3 (([d0, d1, d2, d3, d4, d5, d6].drop 1).take (Tryd.prog.cellsOf 3)) = some y1 := hg 1 _ rfl
            have u2 : DataW.trod enc Tryd.prog W 0 (fun _ => true) true k' 25 (([d0, d1, d2, d3, d4, d5, d6].drop 2).take (Tryd.prog.cellsOf 25)) = some y2 := hg 2 _ rfl
            rw [cells9] at u0
            rw [cells3] at u1
            rw [cells25] at u2
            obtain ⟨nm, f0, _, _⟩ := DataW.trod_string Tryd.underlying9 u0
            obtain ⟨mo, f1, _, v1⟩ := DataW.trod_int Tryd.underlying3 u1
            simp at f0 f1
            subst f0 f1
            obtain ⟨u, hu⟩ := ih _ _ (DataW.trod_le (show k' ≤ k + 1 by omega) u2)
            exact ⟨⟨nm, mo, u⟩, _, rfl, v1, hu⟩)) t4
        simp at e3 e4
        subst e3 e4
        exact ⟨(⟨kind, off, fin, els, mem⟩ : TrF (Tr (k + 1))), ea, el, ec, ma, ml, mc, rfl, ⟨w0, w1, w2⟩, ⟨hna, hnm, hm1, hm2⟩, hE, hM⟩

end Go.Proofs.Qxb6630533aDoor
