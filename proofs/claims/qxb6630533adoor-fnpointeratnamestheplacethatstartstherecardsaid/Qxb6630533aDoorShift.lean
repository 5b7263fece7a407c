/-
  zzjdShifted (function 13): the tree with every offset moved, by value, its rows in new memory.
-/
import Derived.Test.Qxb6630533aDoorToV
namespace Go.Proofs.Qxb6630533aDoor
open Go.RowKit

/-- cs laid over ys from o on. -/
def setL : List Value → Nat → List Value → List Value
  | ys, _, [] => ys
  | ys, o, c :: r => setL (ys.set o c) (o + 1) r

theorem setL_length (cs : List Value) : ∀ (ys : List Value) (o : Nat), (setL ys o cs).length = ys.length := by
  induction cs with
  | nil => intro ys o; rfl
  | cons c r ih => intro ys o; show (setL (ys.set o c) (o + 1) r).length = _; rw [ih]; simp

theorem setL_out (cs : List Value) : ∀ (ys : List Value) (o i : Nat), (i < o ∨ o + cs.length ≤ i) → (setL ys o cs)[i]? = ys[i]? := by
  induction cs with
  | nil => intro ys o i _; rfl
  | cons c r ih =>
    intro ys o i h
    show (setL (ys.set o c) (o + 1) r)[i]? = _
    simp only [List.length_cons] at h
    rw [ih _ _ _ (by omega), List.getElem?_set_ne (by omega)]

theorem setL_in (cs : List Value) : ∀ (ys : List Value) (o j : Nat), o + cs.length ≤ ys.length → j < cs.length → (setL ys o cs)[o + j]? = cs[j]? := by
  induction cs with
  | nil => intro ys o j _ h; simp at h
  | cons c r ih =>
    intro ys o j h hj
    show (setL (ys.set o c) (o + 1) r)[o + j]? = _
    simp only [List.length_cons] at h hj
    cases j with
    | zero => rw [setL_out r _ _ _ (by omega)]; simp [show o < ys.length by omega]
    | succ j =>
      have := ih (ys.set o c) (o + 1) j (by simp; omega) (by omega)
      rw [show o + 1 + j = o + (j + 1) by omega] at this
      rw [this]; simp

/-- The first k elements, of sz cells each, stand in a row. -/
def Filled {β : Type} (sz : Nat) (P : List Value → β → Prop) (ys : List Value) (k : Nat) (xs : List β) : Prop :=
  ∀ i x, i < k → xs[i]? = some x → ∃ cs, cs.length = sz ∧ (∀ j, j < sz → ys[i * sz + j]? = cs[j]?) ∧ P cs x

theorem Filled.keep {β : Type} {sz : Nat} {P P' : List Value → β → Prop} {ys : List Value} {k : Nat} {xs : List β} (h : Filled sz P ys k xs) (hP : ∀ cs x, P cs x → P' cs x) : Filled sz P' ys k xs := fun i x hi hx => by
  obtain ⟨cs, h1, h2, h3⟩ := h i x hi hx
  exact ⟨cs, h1, h2, hP _ _ h3⟩

theorem Filled.set {β : Type} {sz : Nat} {P : List Value → β → Prop} {ys cs : List Value} {k len : Nat} {xs : List β} {x : β} (h : Filled sz P ys k xs) (hx : xs[k]? = some x) (hy : ys.length = len * sz) (hk : k < len) (hc : cs.length = sz) (hp : P cs x) :
    Filled sz P (setL ys (k * sz) cs) (k + 1) xs := fun i y hi hy' => by
  have hm : (k + 1) * sz ≤ len * sz := Nat.mul_le_mul_right sz (by omega)
  have e2 : (k + 1) * sz = k * sz + sz := Nat.succ_mul _ _
  by_cases e : i = k
  · subst e
    rw [hx] at hy'
    obtain rfl := Option.some.inj hy'
    exact ⟨cs, hc, fun j hj => setL_in cs ys (i * sz) j (by omega) (by omega), hp⟩
  · obtain ⟨ds, h1, h2, h3⟩ := h i y (by omega) hy'
    refine ⟨ds, h1, fun j hj => ?_, h3⟩
    have hm2 : (i + 1) * sz ≤ k * sz := Nat.mul_le_mul_right sz (by omega)
    have e3 : (i + 1) * sz = i * sz + sz := Nat.succ_mul _ _
    rw [setL_out cs ys (k * sz) (i * sz + j) (by omega)]
    exact h2 j hj

theorem Filled.row {β : Type} {w : World} {B E sz : Nat} {P P' : List Value → β → Prop} {ys : List Value} {xs : List β} {len : Nat} {t : TypeId} (h : Filled sz P ys len xs) (hE : w.heap[E]? = some (.cells ys.toArray t (0, 0))) (hl : xs.length = len) (hB : B ≤ E) (hP : ∀ cs x, P cs x → P' cs x) :
    Rw w B sz P' (some ⟨E, 0, none⟩) len xs := by
  refine ⟨hl, .inr ⟨E, 0, rfl, hB, lt_of_block hE, fun i x hx => ?_⟩⟩
  have hi : i < len := by have := (List.getElem?_eq_some_iff.1 hx).1; omega
  obtain ⟨cs, h1, h2, h3⟩ := h i x hi hx
  refine ⟨cs, h1, fun j hj => ?_, hP _ _ h3⟩
  rw [cell_of_row _ _ _ _ _ _ hE, Nat.zero_add, ← h2 j (by omega)]
  simp

theorem heap_set5 {w : World} {E o : Nat} {ys : List Value} {t : TypeId} (h : w.heap[E]? = some (.cells ys.toArray t (0, 0))) (a b c d e : Value) :
    (((((w.setCell ⟨E, o, none⟩ a).setCell ⟨E, o + 1, none⟩ b).setCell ⟨E, o + 2, none⟩ c).setCell ⟨E, o + 3, none⟩ d).setCell ⟨E, o + 4, none⟩ e).heap[E]? = some (.cells (setL ys o [a, b, c, d, e]).toArray t (0, 0)) := by
  have e1 := heap_setCell_same w E o ys.toArray t a h
  have e2 := heap_setCell_same _ E (o + 1) _ t b e1
  have e3 := heap_setCell_same _ E (o + 2) _ t c e2
  have e4 := heap_setCell_same _ E (o + 3) _ t d e3
  have e5 := heap_setCell_same _ E (o + 4) _ t e e4
  rw [e5]; simp [setL, Nat.add_assoc]

theorem heap_set7 {w : World} {E o : Nat} {ys : List Value} {t : TypeId} (h : w.heap[E]? = some (.cells ys.toArray t (0, 0))) (x y a b c d e : Value) :
    (((((((w.setCell ⟨E, o, none⟩ x).setCell ⟨E, o + 1, none⟩ y).setCell ⟨E, o + 2, none⟩ a).setCell ⟨E, o + 3, none⟩ b).setCell ⟨E, o + 4, none⟩ c).setCell ⟨E, o + 5, none⟩ d).setCell ⟨E, o + 6, none⟩ e).heap[E]? = some (.cells (setL ys o [x, y, a, b, c, d, e]).toArray t (0, 0)) := by
  have e1 := heap_setCell_same w E o ys.toArray t x h
  have e2 := heap_setCell_same _ E (o + 1) _ t y e1
  have e3 := heap_setCell_same _ E (o + 2) _ t a e2
  have e4 := heap_setCell_same _ E (o + 3) _ t b e3
  have e5 := heap_setCell_same _ E (o + 4) _ t c e4
  have e6 := heap_setCell_same _ E (o + 5) _ t d e5
  have e7 := heap_setCell_same _ E (o + 6) _ t e e6
  rw [e7]; simp [setL, Nat.add_assoc]

theorem info25 : (Tryd.prog.info? 25).map (fun i => (i.zero, i.size, i.bytes)) = some (some (.agg #[.int .u8 0, .int .i64 0, .int .i64 0, .slice none 0 0, .slice none 0 0]), 5, 72) := by kernel_rfl
theorem info41 : (Tryd.prog.info? 41).map (fun i => (i.zero, i.size, i.bytes)) = some (some (.agg #[.string ⟨#[]⟩, .int .i64 0, .int .u8 0, .int .i64 0, .int .i64 0, .slice none 0 0, .slice none 0 0]), 7, 96) := by kernel_rfl

theorem alloc3 (w : World) (a b c : Obj) : (((w.alloc a).alloc b).alloc c).heap[w.heap.size]? = some a ∧ (((w.alloc a).alloc b).alloc c).heap[w.heap.size + 1]? = some b ∧ (((w.alloc a).alloc b).alloc c).heap[w.heap.size + 2]? = some c := by
  refine ⟨?_, ?_, ?_⟩
  · rw [heap_alloc_old _ _ (by simp; omega)]; exact heap_alloc2_old _ _ _
  · rw [heap_alloc_old _ _ (by simp)]; exact heap_alloc2_new _ _ _
  · have h := heap_alloc2_new (w.alloc a) b c
    rw [show (w.alloc a).heap.size + 1 = w.heap.size + 2 by simp] at h
    exact h

theorem wf_wrap (x : Int) : (Lit.int .i64 (wrap64 x)).wf = true := wrap64_wf x

theorem far5 {w : World} {E o g p : Nat} {a b c d e : Value} (h : E ≠ g) : (((((w.setCell ⟨E, o, none⟩ a).setCell ⟨E, o + 1, none⟩ b).setCell ⟨E, o + 2, none⟩ c).setCell ⟨E, o + 3, none⟩ d).setCell ⟨E, o + 4, none⟩ e).cell? ⟨g, p, none⟩ = w.cell? ⟨g, p, none⟩ := by
  rw [World.cell?_of_block (heap_setCell_other _ _ _ _ (Ne.symm h)), World.cell?_of_block (heap_setCell_other _ _ _ _ (Ne.symm h)), World.cell?_of_block (heap_setCell_other _ _ _ _ (Ne.symm h)), World.cell?_of_block (heap_setCell_other _ _ _ _ (Ne.symm h)), World.cell?_of_block (heap_setCell_other _ _ _ _ (Ne.symm h))]

theorem far7 {w : World} {E o g p : Nat} {x y a b c d e : Value} (h : E ≠ g) : (((((((w.setCell ⟨E, o, none⟩ x).setCell ⟨E, o + 1, none⟩ y).setCell ⟨E, o + 2, none⟩ a).setCell ⟨E, o + 3, none⟩ b).setCell ⟨E, o + 4, none⟩ c).setCell ⟨E, o + 5, none⟩ d).setCell ⟨E, o + 6, none⟩ e).cell? ⟨g, p, none⟩ = w.cell? ⟨g, p, none⟩ := by
  rw [World.cell?_of_block (heap_setCell_other _ _ _ _ (Ne.symm h)), World.cell?_of_block (heap_setCell_other _ _ _ _ (Ne.symm h))]
  exact far5 h

theorem row5 {w : World} {E k len : Nat} {ys : List Value} {t : TypeId} (h : w.heap[E]? = some (.cells ys.toArray t (0, 0))) (hy : ys.length = len * 5) (hk : k < len) :
    ((∃ v, w.cell? ⟨E, k * 5, none⟩ = some v) ∧ (∃ v, w.cell? ⟨E, k * 5 + 1, none⟩ = some v) ∧ (∃ v, w.cell? ⟨E, k * 5 + 2, none⟩ = some v) ∧ (∃ v, w.cell? ⟨E, k * 5 + 3, none⟩ = some v) ∧ (∃ v, w.cell? ⟨E, k * 5 + 4, none⟩ = some v)) ∧
    w.frozen? ⟨E, k * 5, none⟩ = false ∧ w.frozen? ⟨E, k * 5 + 1, none⟩ = false ∧ w.frozen? ⟨E, k * 5 + 2, none⟩ = false ∧ w.frozen? ⟨E, k * 5 + 3, none⟩ = false ∧ w.frozen? ⟨E, k * 5 + 4, none⟩ = false := by
  refine ⟨⟨⟨ys[k * 5]'(by omega), ?_⟩, ⟨ys[k * 5 + 1]'(by omega), ?_⟩, ⟨ys[k * 5 + 2]'(by omega), ?_⟩, ⟨ys[k * 5 + 3]'(by omega), ?_⟩, ⟨ys[k * 5 + 4]'(by omega), ?_⟩⟩, frozen_of_row _ _ _ _ _ h, frozen_of_row _ _ _ _ _ h, frozen_of_row _ _ _ _ _ h, frozen_of_row _ _ _ _ _ h, frozen_of_row _ _ _ _ _ h⟩
  all_goals (rw [cell_of_row _ _ _ _ _ _ h]; simp)

theorem row7 {w : World} {E k len : Nat} {ys : List Value} {t : TypeId} (h : w.heap[E]? = some (.cells ys.toArray t (0, 0))) (hy : ys.length = len * 7) (hk : k < len) :
    ((∃ v, w.cell? ⟨E, k * 7, none⟩ = some v) ∧ (∃ v, w.cell? ⟨E, k * 7 + 1, none⟩ = some v) ∧ (∃ v, w.cell? ⟨E, k * 7 + 2, none⟩ = some v) ∧ (∃ v, w.cell? ⟨E, k * 7 + 3, none⟩ = some v) ∧ (∃ v, w.cell? ⟨E, k * 7 + 4, none⟩ = some v) ∧ (∃ v, w.cell? ⟨E, k * 7 + 5, none⟩ = some v) ∧ (∃ v, w.cell? ⟨E, k * 7 + 6, none⟩ = some v)) ∧
    w.frozen? ⟨E, k * 7, none⟩ = false ∧ w.frozen? ⟨E, k * 7 + 1, none⟩ = false ∧ w.frozen? ⟨E, k * 7 + 2, none⟩ = false ∧ w.frozen? ⟨E, k * 7 + 3, none⟩ = false ∧ w.frozen? ⟨E, k * 7 + 4, none⟩ = false ∧ w.frozen? ⟨E, k * 7 + 5, none⟩ = false ∧ w.frozen? ⟨E, k * 7 + 6, none⟩ = false := by
  refine ⟨⟨⟨ys[k * 7]'(by omega), ?_⟩, ⟨ys[k * 7 + 1]'(by omega), ?_⟩, ⟨ys[k * 7 + 2]'(by omega), ?_⟩, ⟨ys[k * 7 + 3]'(by omega), ?_⟩, ⟨ys[k * 7 + 4]'(by omega), ?_⟩, ⟨ys[k * 7 + 5]'(by omega), ?_⟩, ⟨ys[k * 7 + 6]'(by omega), ?_⟩⟩, frozen_of_row _ _ _ _ _ h, frozen_of_row _ _ _ _ _ h, frozen_of_row _ _ _ _ _ h, frozen_of_row _ _ _ _ _ h, frozen_of_row _ _ _ _ _ h, frozen_of_row _ _ _ _ _ h, frozen_of_row _ _ _ _ _ h⟩
  all_goals (rw [cell_of_row _ _ _ _ _ _ h]; simp)

theorem From.set5 {B : Nat} (w : World) {E : Nat} (o : Nat) (hE : E < B) (a b c d e : Value) : From B w (((((w.setCell ⟨E, o, none⟩ a).setCell ⟨E, o + 1, none⟩ b).setCell ⟨E, o + 2, none⟩ c).setCell ⟨E, o + 3, none⟩ d).setCell ⟨E, o + 4, none⟩ e) :=
  ((((From.setCell w (p := ⟨E, o, none⟩) hE a).trans (From.setCell _ (p := ⟨E, o + 1, none⟩) hE b)).trans (From.setCell _ (p := ⟨E, o + 2, none⟩) hE c)).trans (From.setCell _ (p := ⟨E, o + 3, none⟩) hE d)).trans (From.setCell _ (p := ⟨E, o + 4, none⟩) hE e)

theorem From.set7 {B : Nat} (w : World) {E : Nat} (o : Nat) (hE : E < B) (x y a b c d e : Value) : From B w (((((((w.setCell ⟨E, o, none⟩ x).setCell ⟨E, o + 1, none⟩ y).setCell ⟨E, o + 2, none⟩ a).setCell ⟨E, o + 3, none⟩ b).setCell ⟨E, o + 4, none⟩ c).setCell ⟨E, o + 5, none⟩ d).setCell ⟨E, o + 6, none⟩ e) :=
  ((((((From.setCell w (p := ⟨E, o, none⟩) hE x).trans (From.setCell _ (p := ⟨E, o + 1, none⟩) hE y)).trans (From.setCell _ (p := ⟨E, o + 2, none⟩) hE a)).trans (From.setCell _ (p := ⟨E, o + 3, none⟩) hE b)).trans (From.setCell _ (p := ⟨E, o + 4, none⟩) hE c)).trans (From.setCell _ (p := ⟨E, o + 5, none⟩) hE d)).trans (From.setCell _ (p := ⟨E, o + 6, none⟩) hE e)

theorem below_set5 {B : Nat} {w0 w : World} (h : Below B w0 w) {E : Nat} (o : Nat) (hE : B ≤ E) (a b c d e : Value) : Below B w0 (((((w.setCell ⟨E, o, none⟩ a).setCell ⟨E, o + 1, none⟩ b).setCell ⟨E, o + 2, none⟩ c).setCell ⟨E, o + 3, none⟩ d).setCell ⟨E, o + 4, none⟩ e) :=
  ((((h.setCell (p := ⟨E, o, none⟩) hE a).setCell (p := ⟨E, o + 1, none⟩) hE b).setCell (p := ⟨E, o + 2, none⟩) hE c).setCell (p := ⟨E, o + 3, none⟩) hE d).setCell (p := ⟨E, o + 4, none⟩) hE e

theorem below_set7 {B : Nat} {w0 w : World} (h : Below B w0 w) {E : Nat} (o : Nat) (hE : B ≤ E) (x y a b c d e : Value) : Below B w0 (((((((w.setCell ⟨E, o, none⟩ x).setCell ⟨E, o + 1, none⟩ y).setCell ⟨E, o + 2, none⟩ a).setCell ⟨E, o + 3, none⟩ b).setCell ⟨E, o + 4, none⟩ c).setCell ⟨E, o + 5, none⟩ d).setCell ⟨E, o + 6, none⟩ e) :=
  ((((((h.setCell (p := ⟨E, o, none⟩) hE x).setCell (p := ⟨E, o + 1, none⟩) hE y).setCell (p := ⟨E, o + 2, none⟩) hE a).setCell (p := ⟨E, o + 3, none⟩) hE b).setCell (p := ⟨E, o + 4, none⟩) hE c).setCell (p := ⟨E, o + 5, none⟩) hE d).setCell (p := ⟨E, o + 6, none⟩) hE e

/-- Half-way: the node's box as it was, the result's box still zero, the new node with its elements. -/
def Mid13 {n : Nat} (w : World) (d kind off fin : Int) (ea : Option Addr) (el ec : Nat) (ma : Option Addr) (ml mc : Nat) (els : List (Tr n)) (wc : World) : Prop :=
  wc.heap[w.heap.size]? = some (.cells #[.int .u8 kind, .int .i64 off, .int .i64 fin, .slice ea el ec, .slice ma ml mc] 25 (0, 0)) ∧
  wc.heap[w.heap.size + 1]? = some (.cells #[.int .u8 0, .int .i64 0, .int .i64 0, .slice none 0 0, .slice none 0 0] 25 (0, 0)) ∧
  (∃ ea' ec', wc.heap[w.heap.size + 2]? = some (.cells #[.int .u8 kind, .int .i64 (wrap64 (off + d)), .int .i64 (wrap64 (fin + d)), .slice ea' el ec', .slice none 0 0] 25 (0, 0)) ∧ (ea' = none → el = 0) ∧
    Rw wc (w.heap.size + 3) 5 (InN wc (w.heap.size + 3) n) ea' el (els.map (shiftT d n))) ∧
  Below w.heap.size w wc

set_option maxHeartbeats 8000000 in
set_option maxRecDepth 100000 in
theorem shifted13 (d : Int) : ∀ (n : Nat) (cs : List Value) (t : Tr n) (w : World), InN w 0 n cs t → weight n t ≤ 1048576 →
    Calls Tryd.prog 13 #[.agg cs.toArray, .int .i64 d] w fun e w' => ∃ (y0 y1 y2 : Int) (za : Option Addr) (zl zc : Nat) (xa : Option Addr) (xl xc : Nat), e = .returned (.agg #[.int .u8 y0, .int .i64 y1, .int .i64 y2, .slice za zl zc, .slice xa xl xc]) ∧ InN w' w.heap.size n [.int .u8 y0, .int .i64 y1, .int .i64 y2, .slice za zl zc, .slice xa xl xc] (shiftT d n t) ∧ Below w.heap.size w w' := by
  intro n
  induction n with
  | zero => intro cs t w h; exact h.elim
  | succ n ih =>
    rintro cs t w ⟨ea, el, ec, ma, ml, mc, rfl, ⟨hwk, _, _⟩, ⟨hna, hnm, hmx1, hmx2⟩, hE, hM⟩ hwt
    obtain ⟨kind, off, fin, els, mem⟩ := (t : TrF (Tr n))
    simp only at hE hM hwk
    have hel : el ≤ 1048576 := by have := weight_els (n := n) ⟨kind, off, fin, els, mem⟩; have := hE.1; simp only at *; omega
    have hml : ml ≤ 1048576 := by have := weight_mem (n := n) ⟨kind, off, fin, els, mem⟩; have := hM.1; simp only at *; omega
    obtain ⟨i25, hi25, hz0, hz1, hz2⟩ := info_parts info25
    obtain ⟨i41, hi41, hy0, hy1, hy2⟩ := info_parts info41
    have HE := hide hE
    have HM := hide hM
    have IH := hide ih
    have HWT := hide hwt
    have HNA := hide hna
    have HNM := hide hnm
    have HWK := hide hwk
    have HMX := hide (And.intro hmx1 hmx2)
    have hneqE := fun (w : World) (a : Option Addr) (n c : Nat) => run_neq_slice_nil_any (P := Tryd.prog) w 22 25 a n c 0 0 Tryd.underlying22
    have hneqM := fun (w : World) (a : Option Addr) (n c : Nat) => run_neq_slice_nil_any (P := Tryd.prog) w 23 41 a n c 0 0 Tryd.underlying23
    clear hE hM ih hwt hna hnm hwk hmx1 hmx2
    go_enter Tryd.func13, Tryd.ntmps13
    go_upto_if 23 with fail
    obtain ⟨W0, hW0⟩ : ∃ W0, W0 = ((w.alloc (.cells #[.int .u8 kind, .int .i64 off, .int .i64 fin, .slice ea el ec, .slice ma ml mc] 25)).alloc (.cells #[.int .u8 0, .int .i64 0, .int .i64 0, .slice none 0 0, .slice none 0 0] 25)).alloc (.cells #[.int .u8 kind, .int .i64 (wrap64 (off + d)), .int .i64 (wrap64 (fin + d)), .slice none 0 0, .slice none 0 0] 25) := ⟨_, rfl⟩
    rw [← hW0]
    have HN0 : Hid (W0.heap[w.heap.size]? = some (.cells #[.int .u8 kind, .int .i64 off, .int .i64 fin, .slice ea el ec, .slice ma ml mc] 25 (0, 0))) := hide (by rw [hW0]; exact (alloc3 _ _ _ _).1)
    have HR0 : Hid (W0.heap[w.heap.size + 1]? = some (.cells #[.int .u8 0, .int .i64 0, .int .i64 0, .slice none 0 0, .slice none 0 0] 25 (0, 0))) := hide (by rw [hW0]; exact (alloc3 _ _ _ _).2.1)
    have HV0 : Hid (W0.heap[w.heap.size + 2]? = some (.cells #[.int .u8 kind, .int .i64 (wrap64 (off + d)), .int .i64 (wrap64 (fin + d)), .slice none 0 0, .slice none 0 0] 25 (0, 0))) := hide (by rw [hW0]; exact (alloc3 _ _ _ _).2.2)
    have HS0 : Hid (W0.heap.size = w.heap.size + 3) := hide (by rw [hW0]; simp)
    have HBW0 : Hid (Below w.heap.size w W0) := hide (by rw [hW0]; exact (((Below.refl _ _).alloc (Nat.le_refl _) _).alloc (by simp) _).alloc (by simp; omega) _)
    clear hW0
    go_cut [1, 2, 4, 5] (fun s1 s2 s4 s5 wc => s1 = .int .i64 d ∧ s2 = .pointer (some ⟨w.heap.size, 0, none⟩) ∧ s4 = .pointer (some ⟨w.heap.size + 1, 0, none⟩) ∧ s5 = .pointer (some ⟨w.heap.size + 2, 0, none⟩) ∧ Mid13 w d kind off fin ea el ec ma ml mc els wc)
    case first =>
      cases ea with
      | none =>
        have HEL0 := hide (unhide HNA rfl)
        go_wp2_with fail
        go_meet
        case rel =>
          refine ⟨rfl, rfl, rfl, rfl, unhide HN0, unhide HR0, ⟨none, 0, ?_, fun _ => unhide HEL0, ?_⟩, unhide HBW0⟩
          · rw [unhide HEL0]; exact unhide HV0
          · exact ⟨by rw [List.length_map]; exact (unhide HE).1, .inl (unhide HEL0)⟩
      | some ad =>
        obtain ⟨b0, b1, b2, b3, b4⟩ := cell5 (cells_of_block (cs := [_, _, _, _, _]) (unhide HN0))
        simp only [Nat.zero_add] at b0 b1 b2 b3 b4
        go_wp2_with (at_make; refine wpList_make_full _ rfl _ _ 22 rfl W0.heap.size 25 i25 _ 5 Tryd.underlying22 hi25 hz0 hz1 _ _ _ _ el rfl rfl rfl rfl (by rw [hz2]; omega) (by unfold maxLen; omega) (Nat.le_refl _) ?_; intro w1 hown1 hgrow1)
        clear b0 b1 b2 b3 b4
        go_loopw [7] (fun i wr => ∃ (k : Nat) (ys : List Value), k ≤ el ∧ i = .int .i64 k ∧ wr.heap[W0.heap.size]? = some (.cells ys.toArray 25 (0, 0)) ∧ ys.length = el * 5 ∧ Filled 5 (InN wr (W0.heap.size + 1) n) ys k (els.map (shiftT d n)) ∧ Below W0.heap.size W0 wr) (fun i _ => el - (intOf i).toNat)
        case atStart =>
          obtain ⟨hb, hy⟩ := own_block hown1
          exact ⟨0, _, Nat.zero_le _, rfl, hb, hy, fun i s hi => absurd hi (by omega), (Below.refl _ _).grown hgrow1 (Nat.le_refl _) (fun k h => by cases h)⟩
        case round =>
          obtain ⟨k, ys, hk, rfl, hG, hy, hf, hbw⟩ := hrel
          have HG := hide hG
          have HF := hide hf
          have HY := hide hy
          have hGz : W0.heap.size < wr.heap.size := lt_of_block hG
          have hbw' : Below w.heap.size w wr := (unhide HBW0).trans (hbw.mono (unhide HBW0).size)
          clear hG hf hown1 hgrow1 hy
          obtain ⟨b0, b1, b2, b3, b4⟩ := cell5 ((cells_of_block (cs := [_, _, _, _, _]) (unhide HN0)).keep (From.of_below (B := 0) hbw) (Nat.zero_le _) (by rw [unhide HS0]; omega))
          simp only [Nat.zero_add] at b0 b1 b2 b3 b4
          by_cases hlt : k < el
          · obtain ⟨hl, h | ⟨g, o, hx, _, hg, hc⟩⟩ := unhide HE
            · exact absurd h (by omega)
            obtain rfl := Option.some.inj hx
            obtain ⟨e, he⟩ : ∃ e, els[k]? = some e := ⟨els[k]'(by omega), by simp⟩
            obtain ⟨cs, hcl, hcc, hin⟩ := hc k e he
            have hccr := hcc.keep (From.of_below (B := 0) hbw') (Nat.zero_le _) hg
            have HIN := hide (InN.keep (From.of_below hbw') n cs e hin)
            have HEL : Hid ((els.map (shiftT d n))[k]? = some (shiftT d n e)) := hide (by rw [List.getElem?_map, he]; rfl)
            have HWE : Hid (weight n e ≤ 1048576) := hide (by have h1 := weight_el (n := n) ⟨kind, off, fin, els, mem⟩ e (List.mem_of_getElem? he); have h2 := unhide HWT; omega)
            clear hc hcc hin he hl hx
            match cs, hcl with
            | [x0, x1, x2, x3, x4], _ =>
              obtain ⟨c0, c1, c2, c3, c4⟩ := cell5 hccr
              clear hccr
              go_wp2_with fail
              refine (unhide IH [x0, x1, x2, x3, x4] e _ (unhide HIN) (unhide HWE)).mono ?_
              rintro e1 w2 ⟨y0, y1, y2, za, zl, zc, xa, xl, xc, rfl, hov, hb2⟩
              have hb02 : Below W0.heap.size W0 w2 := hbw.trans (hb2.mono hbw.size)
              have HG2 : Hid (w2.heap[W0.heap.size]? = some (.cells ys.toArray 25 (0, 0))) := hide ((hb2.block _ hGz).trans (unhide HG))
              have HF2 := hide ((unhide HF).keep (fun cs x h => InN.keep (From.of_below hb2) n cs x h))
              have HOV := hide (InN.mono (B' := W0.heap.size + 1) (by omega) n _ _ hov)
              clear c0 c1 c2 c3 c4 b0 b1 b2 b3 b4 hov
              obtain ⟨⟨⟨q0, r0⟩, ⟨q1, r1⟩, ⟨q2, r2⟩, ⟨q3, r3⟩, ⟨q4, r4⟩⟩, f0, f1, f2, f3, f4⟩ := row5 (k := k) (unhide HG2) (unhide HY) hlt
              go_wp2_with fail
              go_roundw
              case rel =>
                have hkeep := From.set5 (B := W0.heap.size + 1) w2 (k * 5) (by omega : W0.heap.size < _) (.int .u8 y0) (.int .i64 y1) (.int .i64 y2) (.slice za zl zc) (.slice xa xl xc)
                exact ⟨k + 1, _, by omega, by go_num, heap_set5 (unhide HG2) (.int .u8 y0) (.int .i64 y1) (.int .i64 y2) (.slice za zl zc) (.slice xa xl xc), by rw [setL_length]; exact unhide HY, ((unhide HF2).set (unhide HEL) (unhide HY) hlt rfl (unhide HOV)).keep (fun cs x h => InN.keep hkeep n cs x h), below_set5 hb02 (k * 5) (Nat.le_refl _) (.int .u8 y0) (.int .i64 y1) (.int .i64 y2) (.slice za zl zc) (.slice xa xl xc)⟩
              case measure => simp [intOf]; omega
          · have hkl : el = k := by omega
            subst hkl
            have HV1 : Hid (wr.heap[w.heap.size + 2]? = some (.cells #[.int .u8 kind, .int .i64 (wrap64 (off + d)), .int .i64 (wrap64 (fin + d)), .slice none 0 0, .slice none 0 0] 25 (0, 0))) := hide ((hbw.block _ (by rw [unhide HS0]; omega)).trans (unhide HV0))
            have HN1 := hide ((hbw.block w.heap.size (by rw [unhide HS0]; omega)).trans (unhide HN0))
            have HR1 := hide ((hbw.block (w.heap.size + 1) (by rw [unhide HS0]; omega)).trans (unhide HR0))
            have v6 : wr.cell? ⟨w.heap.size + 1 + 1, 3, none⟩ = some (.slice none 0 0) := by rw [cell_of_row _ _ _ _ _ _ (unhide HV1)]; rfl
            have f6 : wr.frozen? ⟨w.heap.size + 1 + 1, 3, none⟩ = false := frozen_of_row _ _ _ _ _ (unhide HV1)
            clear hk
            go_wp2_with fail
            go_meet
            case rel =>
              have hkeep : From (w.heap.size + 3) wr (wr.setCell ⟨w.heap.size + 2, 3, none⟩ (.slice (some ⟨W0.heap.size, 0, none⟩) el el)) := From.setCell wr (p := ⟨w.heap.size + 2, 3, none⟩) (by simp) _
              have hrow := (unhide HF).row (B := w.heap.size + 3) (unhide HG) (by rw [List.length_map]; exact (unhide HE).1) (by rw [unhide HS0]; omega) (fun cs x h => InN.mono (B' := w.heap.size + 3) (by rw [unhide HS0]; omega) n cs x h)
              refine ⟨rfl, rfl, rfl, rfl, ?_, ?_, ⟨some ⟨W0.heap.size, 0, none⟩, el, ?_, (fun h => (by cases h)), ?_⟩, hbw'.setCell (p := ⟨w.heap.size + 2, 3, none⟩) (by simp) _⟩
              · rw [heap_setCell_other _ _ _ _ (by simp; omega)]; exact unhide HN1
              · rw [heap_setCell_other _ _ _ _ (by simp)]; exact unhide HR1
              · rw [heap_setCell_same _ _ _ _ _ _ (unhide HV1)]; rfl
              · exact hrow.keep hkeep (fun cs x h => InN.keep hkeep n cs x h)
    case rest =>
      obtain ⟨rfl, rfl, rfl, rfl, hN, hR, ⟨ea', ec', hV, hna', hRE⟩, hbwc⟩ := hcut
      obtain ⟨W1, rfl⟩ : ∃ W1 : World, W1 = wc := ⟨_, rfl⟩
      have HN1 := hide hN
      have HR1 := hide hR
      have HV1 := hide hV
      have HNA' := hide hna'
      have HRE := hide hRE
      have HBW1 := hide hbwc
      have hV1z : w.heap.size + 2 < W1.heap.size := lt_of_block hV
      clear hN hR hV hRE hbwc HN0 HR0 HV0 HBW0 HS0 HE HNA W0 hna'
      obtain ⟨b0, b1, b2, b3, b4⟩ := cell5 (cells_of_block (cs := [_, _, _, _, _]) (unhide HN1))
      simp only [Nat.zero_add] at b0 b1 b2 b3 b4
      cases ma with
      | none =>
        have HML0 := hide (unhide HNM rfl)
        obtain ⟨s0, s1, s2, s3, s4⟩ := cell5 (cells_of_block (cs := [_, _, _, _, _]) (unhide HV1))
        obtain ⟨r0, r1, r2, r3, r4⟩ := cell5 (cells_of_block (cs := [_, _, _, _, _]) (unhide HR1))
        simp only [Nat.zero_add] at s0 s1 s2 s3 s4 r0 r1 r2 r3 r4
        have f0 : W1.frozen? ⟨w.heap.size + 1, 0, none⟩ = false := frozen_of_row _ _ _ _ _ (unhide HR1)
        have f1 : W1.frozen? ⟨w.heap.size + 1, 1, none⟩ = false := frozen_of_row _ _ _ _ _ (unhide HR1)
        have f2 : W1.frozen? ⟨w.heap.size + 1, 2, none⟩ = false := frozen_of_row _ _ _ _ _ (unhide HR1)
        have f3 : W1.frozen? ⟨w.heap.size + 1, 3, none⟩ = false := frozen_of_row _ _ _ _ _ (unhide HR1)
        have f4 : W1.frozen? ⟨w.heap.size + 1, 4, none⟩ = false := frozen_of_row _ _ _ _ _ (unhide HR1)
        go_wp2_with fail
        have hb5 := below_set5 (unhide HBW1) (E := w.heap.size + 1) 0 (by omega) (.int .u8 kind) (.int .i64 (wrap64 (off + d))) (.int .i64 (wrap64 (fin + d))) (.slice ea' el ec') (.slice none 0 0)
        have hk5 := From.set5 (B := w.heap.size + 3) W1 (E := w.heap.size + 1) 0 (by omega) (.int .u8 kind) (.int .i64 (wrap64 (off + d))) (.int .i64 (wrap64 (fin + d))) (.slice ea' el ec') (.slice none 0 0)
        have HH : Hid (ml = 0) := HML0
        refine bodyPost_ret (v := .agg #[.int .u8 kind, .int .i64 (wrap64 (off + d)), .int .i64 (wrap64 (fin + d)), .slice ea' el ec', .slice none 0 0]) (by simp [results, Tryd.results13, go_sem, r0, r1, r2, r3, r4]) rfl ⟨kind, wrap64 (off + d), wrap64 (fin + d), ea', el, ec', none, 0, 0, rfl, ?_, hb5⟩
        refine ⟨ea', el, ec', none, 0, 0, rfl, ⟨unhide HWK, wf_wrap _, wf_wrap _⟩, ⟨unhide HNA', fun _ => rfl, (unhide HMX).1, Nat.zero_le _⟩, ?_, ?_⟩
        · exact ((unhide HRE).keep hk5 (fun cs x h => InN.keep hk5 n cs x h)).mono (by omega) (fun cs x h => InN.mono (by omega) n cs x h)
        · refine ⟨?_, .inl rfl⟩
          show (mem.map _).length = 0
          rw [List.length_map, (unhide HM).1, unhide HH]
      | some ad =>
        go_wp2_with (at_make; refine wpList_make_full _ rfl _ _ 23 rfl W1.heap.size 41 i41 _ 7 Tryd.underlying23 hi41 hy0 hy1 _ _ _ _ ml rfl rfl rfl rfl (by rw [hy2]; omega) (by unfold maxLen; omega) (Nat.le_refl _) ?_; intro w1 hown1 hgrow1)
        clear b0 b1 b2 b3 b4
        go_loopw [9] (fun i wr => ∃ (k : Nat) (ys : List Value), k ≤ ml ∧ i = .int .i64 k ∧ wr.heap[W1.heap.size]? = some (.cells ys.toArray 41 (0, 0)) ∧ ys.length = ml * 7 ∧ Filled 7 (MemP (InN wr (W1.heap.size + 1) n)) ys k (mem.map fun m => (⟨m.name, wrap64 (m.off + d), shiftT d n m.val⟩ : MemF (Tr n))) ∧ Below W1.heap.size W1 wr) (fun i _ => ml - (intOf i).toNat)
        case atStart =>
          obtain ⟨hb, hy⟩ := own_block hown1
          exact ⟨0, _, Nat.zero_le _, rfl, hb, hy, fun i s hi => absurd hi (by omega), (Below.refl _ _).grown hgrow1 (Nat.le_refl _) (fun k h => by cases h)⟩
        case round =>
          obtain ⟨k, ys, hk, rfl, hG, hy, hf, hbw⟩ := hrel
          have HG := hide hG
          have HF := hide hf
          have HY := hide hy
          have hGz : W1.heap.size < wr.heap.size := lt_of_block hG
          have hbw' : Below w.heap.size w wr := (unhide HBW1).trans (hbw.mono (unhide HBW1).size)
          clear hG hf hown1 hgrow1 hy
          obtain ⟨b0, b1, b2, b3, b4⟩ := cell5 ((cells_of_block (cs := [_, _, _, _, _]) (unhide HN1)).keep (From.of_below (B := 0) hbw) (Nat.zero_le _) (by omega))
          simp only [Nat.zero_add] at b0 b1 b2 b3 b4
          by_cases hlt : k < ml
          · obtain ⟨hl, h | ⟨g, o, hx, _, hg, hc⟩⟩ := unhide HM
            · exact absurd h (by omega)
            obtain rfl := Option.some.inj hx
            obtain ⟨m, hm⟩ : ∃ m, mem[k]? = some m := ⟨mem[k]'(by omega), by simp⟩
            obtain ⟨cs, hcl, hcc, rr, hcs, hmo, hin⟩ := hc k m hm
            have hccr := hcc.keep (From.of_below (B := 0) hbw') (Nat.zero_le _) hg
            have HIN := hide (InN.keep (From.of_below hbw'.drew) n rr m.val hin)
            have HME : Hid ((mem.map fun m => (⟨m.name, wrap64 (m.off + d), shiftT d n m.val⟩ : MemF (Tr n)))[k]? = some ⟨m.name, wrap64 (m.off + d), shiftT d n m.val⟩) := hide (by rw [List.getElem?_map, hm]; rfl)
            have HWE : Hid (weight n m.val ≤ 1048576) := hide (by have h1 := weight_me (n := n) ⟨kind, off, fin, els, mem⟩ m (List.mem_of_getElem? hm); have h2 := unhide HWT; omega)
            subst hcs
            clear hc hcc hin hm hl hx hmo
            obtain ⟨mname, moff, mval⟩ := m
            have hcl5 : rr.length = 5 := by simpa using hcl
            clear hcl
            match rr, hcl5 with
            | [x0, x1, x2, x3, x4], _ =>
              obtain ⟨c0, c1, d0, d1, d2, d3, d4⟩ := cell7 hccr
              have i0 : (0 : Int) ≤ (k : Int) := by omega
              have i1 : (k : Int) < (ml : Int) := by omega
              have zw : w.heap.size < wr.heap.size := by omega
              have zg : g < wr.heap.size := by omega
              have ne1 : W1.heap.size ≠ w.heap.size := by omega
              have ne2 : W1.heap.size ≠ g := by have := (unhide HBW1).size; omega
              clear hccr b0 b1 b2 b3
              go_wp2_with fail
              go_region_held3 (fun w' => w'.cell? ⟨w.heap.size, 4, none⟩ = some (.slice (some ⟨g, o, none⟩) ml mc) ∧ w'.cell? ⟨g, o + k * 7, none⟩ = some (.string mname) ∧ w'.cell? ⟨g, o + k * 7 + 1, none⟩ = some (.int .i64 moff) ∧ w'.cell? ⟨g, o + k * 7 + 2, none⟩ = some x0 ∧ w'.cell? ⟨g, o + k * 7 + 2 + 1, none⟩ = some x1 ∧ w'.cell? ⟨g, o + k * 7 + 2 + 2, none⟩ = some x2 ∧ w'.cell? ⟨g, o + k * 7 + 2 + 3, none⟩ = some x3 ∧ w'.cell? ⟨g, o + k * 7 + 2 + 4, none⟩ = some x4) (first | (exact ⟨by first | (rw [far7 ne1]; exact y0) | exact y0, by first | (rw [far7 ne2]; exact y1) | exact y1, by first | (rw [far7 ne2]; exact y2) | exact y2, by first | (rw [far7 ne2]; exact y3) | exact y3, by first | (rw [far7 ne2]; exact y4) | exact y4, by first | (rw [far7 ne2]; exact y5) | exact y5, by first | (rw [far7 ne2]; exact y6) | exact y6, by first | (rw [far7 ne2]; exact y7) | exact y7⟩) | go_keep)
                (first | (go_at_call 13; refine (unhide IH [x0, x1, x2, x3, x4] mval _ (unhide HIN) (unhide HWE)).mono ?_; rintro e1 w2 ⟨u0, u1, u2, za, zl, zc, xa, xl, xc, rfl, hov, hb2⟩; have y0 := (hb2.cell (p := ⟨w.heap.size, 4, none⟩) zw).trans b4; have y1 := (hb2.cell (p := ⟨g, o + k * 7, none⟩) zg).trans c0; have y2 := (hb2.cell (p := ⟨g, o + k * 7 + 1, none⟩) zg).trans c1; have y3 := (hb2.cell (p := ⟨g, o + k * 7 + 2, none⟩) zg).trans d0; have y4 := (hb2.cell (p := ⟨g, o + k * 7 + 2 + 1, none⟩) zg).trans d1; have y5 := (hb2.cell (p := ⟨g, o + k * 7 + 2 + 2, none⟩) zg).trans d2; have y6 := (hb2.cell (p := ⟨g, o + k * 7 + 2 + 3, none⟩) zg).trans d3; have y7 := (hb2.cell (p := ⟨g, o + k * 7 + 2 + 4, none⟩) zg).trans d4; have HG2 : Hid (w2.heap[W1.heap.size]? = some (.cells ys.toArray 41 (0, 0))) := hide ((hb2.block _ hGz).trans (unhide HG)); obtain ⟨⟨⟨q0, r0⟩, ⟨q1, r1⟩, ⟨q2, r2⟩, ⟨q3, r3⟩, ⟨q4, r4⟩, ⟨q5, r5⟩, ⟨q6, r6⟩⟩, f0, f1, f2, f3, f4, f5, f6⟩ := row7 (k := k) (unhide HG2) (unhide HY) hlt))
              go_wp2_with fail
              go_roundw
              case rel =>
                have hbd : Below wr.heap.size wr w2 := ((Below.refl _ wr).drew).trans hb2
                have hkeep := From.set7 (B := W1.heap.size + 1) w2 (k * 7) (by omega : W1.heap.size < _) (.string mname) (.int .i64 (wrap64 (moff + d))) (.int .u8 u0) (.int .i64 u1) (.int .i64 u2) (.slice za zl zc) (.slice xa xl xc)
                have hall := (From.of_below (B := W1.heap.size + 1) hbd).trans hkeep
                have hov' := InN.keep hkeep n _ _ (InN.mono (B' := W1.heap.size + 1) (show W1.heap.size + 1 ≤ wr.heap.size by omega) n _ _ hov)
                exact ⟨k + 1, _, by omega, by go_num, heap_set7 (unhide HG2) (.string mname) (.int .i64 (wrap64 (moff + d))) (.int .u8 u0) (.int .i64 u1) (.int .i64 u2) (.slice za zl zc) (.slice xa xl xc), by rw [setL_length]; exact unhide HY, ((unhide HF).keep (fun cs m ⟨r, a, b, c⟩ => ⟨r, a, b, InN.keep hall n r m.val c⟩)).set (unhide HME) (unhide HY) hlt rfl ⟨_, rfl, wf_wrap _, hov'⟩, below_set7 (hbw.trans (hbd.mono hbw.size)) (k * 7) (Nat.le_refl _) (.string mname) (.int .i64 (wrap64 (moff + d))) (.int .u8 u0) (.int .i64 u1) (.int .i64 u2) (.slice za zl zc) (.slice xa xl xc)⟩
              case measure => simp [intOf]; omega
          · have hkl : ml = k := by omega
            subst hkl
            have HV2 : Hid (wr.heap[w.heap.size + 2]? = some (.cells #[.int .u8 kind, .int .i64 (wrap64 (off + d)), .int .i64 (wrap64 (fin + d)), .slice ea' el ec', .slice none 0 0] 25 (0, 0))) := hide ((hbw.block _ hV1z).trans (unhide HV1))
            have HR2 := hide ((hbw.block (w.heap.size + 1) (by omega)).trans (unhide HR1))
            obtain ⟨s0, s1, s2, s3, s4⟩ := cell5 (cells_of_block (cs := [_, _, _, _, _]) (unhide HV2))
            obtain ⟨r0, r1, r2, r3, r4⟩ := cell5 (cells_of_block (cs := [_, _, _, _, _]) (unhide HR2))
            simp only [Nat.zero_add] at s0 s1 s2 s3 s4 r0 r1 r2 r3 r4
            have f0 : wr.frozen? ⟨w.heap.size + 1, 0, none⟩ = false := frozen_of_row _ _ _ _ _ (unhide HR2)
            have f1 : wr.frozen? ⟨w.heap.size + 1, 1, none⟩ = false := frozen_of_row _ _ _ _ _ (unhide HR2)
            have f2 : wr.frozen? ⟨w.heap.size + 1, 2, none⟩ = false := frozen_of_row _ _ _ _ _ (unhide HR2)
            have f3 : wr.frozen? ⟨w.heap.size + 1, 3, none⟩ = false := frozen_of_row _ _ _ _ _ (unhide HR2)
            have f4 : wr.frozen? ⟨w.heap.size + 1, 4, none⟩ = false := frozen_of_row _ _ _ _ _ (unhide HR2)
            have g4 : wr.frozen? ⟨w.heap.size + 2, 4, none⟩ = false := frozen_of_row _ _ _ _ _ (unhide HV2)
            clear hk
            go_wp2_with fail
            have hb6 := hbw'.setCell (p := ⟨w.heap.size + 2, 4, none⟩) (by simp) (.slice (some ⟨W1.heap.size, 0, none⟩) ml ml)
            have hb5 := below_set5 hb6 (E := w.heap.size + 1) 0 (by omega) (.int .u8 kind) (.int .i64 (wrap64 (off + d))) (.int .i64 (wrap64 (fin + d))) (.slice ea' el ec') (.slice (some ⟨W1.heap.size, 0, none⟩) ml ml)
            have hk5 := (From.setCell wr (B := w.heap.size + 3) (p := ⟨w.heap.size + 2, 4, none⟩) (by simp) (.slice (some ⟨W1.heap.size, 0, none⟩) ml ml)).trans (From.set5 (B := w.heap.size + 3) _ (E := w.heap.size + 1) 0 (by omega) (.int .u8 kind) (.int .i64 (wrap64 (off + d))) (.int .i64 (wrap64 (fin + d))) (.slice ea' el ec') (.slice (some ⟨W1.heap.size, 0, none⟩) ml ml))
            have hrow := (unhide HF).row (B := w.heap.size + 3) (unhide HG) (by rw [List.length_map]; exact (unhide HM).1) (by omega) (fun cs m ⟨r, a, b, c⟩ => (⟨r, a, b, InN.mono (B' := w.heap.size + 3) (by omega) n r m.val c⟩ : MemP (InN wr (w.heap.size + 3) n) cs m))
            have hre := (unhide HRE).keep ((From.of_below hbw).trans hk5) (fun cs x h => InN.keep ((From.of_below hbw).trans hk5) n cs x h)
            refine bodyPost_ret (v := .agg #[.int .u8 kind, .int .i64 (wrap64 (off + d)), .int .i64 (wrap64 (fin + d)), .slice ea' el ec', .slice (some ⟨W1.heap.size, 0, none⟩) ml ml]) (by simp [results, Tryd.results13, go_sem, r0, r1, r2, r3, r4]) rfl ⟨kind, wrap64 (off + d), wrap64 (fin + d), ea', el, ec', some ⟨W1.heap.size, 0, none⟩, ml, ml, rfl, ?_, hb5⟩
            refine ⟨ea', el, ec', some ⟨W1.heap.size, 0, none⟩, ml, ml, rfl, ⟨unhide HWK, wf_wrap _, wf_wrap _⟩, ⟨unhide HNA', (fun h => (by cases h)), (unhide HMX).1, (unhide HMX).2⟩, ?_, ?_⟩
            · exact hre.mono (by omega) (fun cs x h => InN.mono (by omega) n cs x h)
            · exact (hrow.keep hk5 (fun cs m ⟨r, a, b, c⟩ => (⟨r, a, b, InN.keep hk5 n r m.val c⟩ : MemP (InN _ (w.heap.size + 3) n) cs m))).mono (by omega) (fun cs m ⟨r, a, b, c⟩ => ⟨r, a, b, InN.mono (by omega) n r m.val c⟩)

end Go.Proofs.Qxb6630533aDoor
