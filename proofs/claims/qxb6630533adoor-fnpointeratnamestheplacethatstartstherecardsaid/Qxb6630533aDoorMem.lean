/-
  HOW TREES LIE IN MEMORY: a node by value (five cells), a jsondoc.Value behind a pointer; what keeps them.
-/
import Derived.Test.Qxb6630533aDoorTree
import Derived.Test.Qxb6630533aDoorProg
import Derived.WalkKit
import Derived.WalkSpells
import Derived.WalkLawsBesides
namespace Go.Proofs.Qxb6630533aDoor
open Go.RowKit

theorem hide {p : Prop} (h : p) : Hid p := h
theorem unhide {p : Prop} (h : Hid p) : p := h

/-- From block B on, what was there is as it was. -/
structure From (B : Nat) (w w' : World) : Prop where
  size : w.heap.size ≤ w'.heap.size
  block : ∀ k, B ≤ k → k < w.heap.size → w'.heap[k]? = w.heap[k]?

theorem From.refl (B : Nat) (w : World) : From B w w := ⟨Nat.le_refl _, fun _ _ _ => rfl⟩
theorem From.trans {B : Nat} {a b c : World} (h : From B a b) (k : From B b c) : From B a c :=
  ⟨Nat.le_trans h.size k.size, fun i hi hl => (k.block i hi (Nat.lt_of_lt_of_le hl h.size)).trans (h.block i hi hl)⟩
theorem From.mono {B B' : Nat} {w w' : World} (h : From B w w') (hB : B ≤ B') : From B' w w' := ⟨h.size, fun k hk hl => h.block k (by omega) hl⟩
theorem From.of_below {B : Nat} {w w' : World} (h : Below w.heap.size w w') : From B w w' := ⟨h.size, fun k _ hl => h.block k hl⟩
theorem From.alloc (B : Nat) (w : World) (o : Obj) : From B w (w.alloc o) := From.of_below ((Below.refl _ _).alloc (Nat.le_refl _) o)
theorem From.drew (B : Nat) (w : World) : From B w w.drew := ⟨Nat.le_refl _, fun _ _ _ => rfl⟩
theorem From.setCell {B : Nat} (w : World) {p : Addr} (hp : p.block < B) (v : Value) : From B w (w.setCell p v) :=
  ⟨by simp [World.setCell], fun k hk _ => Below.heap_setCell _ _ _ _ (by omega)⟩

/-- Consecutive cells. -/
def Cells (w : World) (g o : Nat) (cs : List Value) : Prop := ∀ j, j < cs.length → w.cell? ⟨g, o + j, none⟩ = cs[j]?

theorem Cells.keep {B : Nat} {w w' : World} {g o : Nat} {cs : List Value} (h : Cells w g o cs) (hf : From B w w') (hB : B ≤ g) (hg : g < w.heap.size) : Cells w' g o cs := fun j hj => by
  rw [← h j hj]; exact World.cell?_of_block (hf.block g hB hg)

/-- A row of elements of sz cells each. -/
def Rw {β : Type} (w : World) (B sz : Nat) (P : List Value → β → Prop) (a : Option Addr) (len : Nat) (xs : List β) : Prop :=
  xs.length = len ∧ (len = 0 ∨ ∃ g o, a = some ⟨g, o, none⟩ ∧ B ≤ g ∧ g < w.heap.size ∧ ∀ i x, xs[i]? = some x → ∃ cs, cs.length = sz ∧ Cells w g (o + i * sz) cs ∧ P cs x)

theorem Rw.keep {β : Type} {w w' : World} {B sz : Nat} {P P' : List Value → β → Prop} {a : Option Addr} {len : Nat} {xs : List β} (h : Rw w B sz P a len xs) (hf : From B w w') (hP : ∀ cs x, P cs x → P' cs x) : Rw w' B sz P' a len xs := by
  obtain ⟨hl, h | ⟨g, o, ha, hB, hg, hc⟩⟩ := h
  · exact ⟨hl, .inl h⟩
  · refine ⟨hl, .inr ⟨g, o, ha, hB, Nat.lt_of_lt_of_le hg hf.size, fun i x hx => ?_⟩⟩
    obtain ⟨cs, h1, h2, h3⟩ := hc i x hx
    exact ⟨cs, h1, h2.keep hf hB hg, hP _ _ h3⟩

theorem Rw.mono {β : Type} {w : World} {B B' sz : Nat} {P P' : List Value → β → Prop} {a : Option Addr} {len : Nat} {xs : List β} (h : Rw w B sz P a len xs) (hB' : B' ≤ B) (hP : ∀ cs x, P cs x → P' cs x) : Rw w B' sz P' a len xs := by
  obtain ⟨hl, h | ⟨g, o, ha, hB, hg, hc⟩⟩ := h
  · exact ⟨hl, .inl h⟩
  · refine ⟨hl, .inr ⟨g, o, ha, by omega, hg, fun i x hx => ?_⟩⟩
    obtain ⟨cs, h1, h2, h3⟩ := hc i x hx
    exact ⟨cs, h1, h2, hP _ _ h3⟩

/-- A member by value: its name, its offset, its node's five cells. -/
def MemP {α : Type} (P : List Value → α → Prop) (cs : List Value) (m : MemF α) : Prop :=
  ∃ r, cs = .string m.name :: .int .i64 m.off :: r ∧ (Lit.int .i64 m.off).wf = true ∧ P r m.val

/-- A node by value. -/
def NodeP {α : Type} (w : World) (B : Nat) (P : List Value → α → Prop) (cs : List Value) (u : TrF α) : Prop :=
  ∃ ea el ec ma ml mc, cs = [.int .u8 u.kind, .int .i64 u.off, .int .i64 u.fin, .slice ea el ec, .slice ma ml mc] ∧
    ((Lit.int .u8 u.kind).wf = true ∧ (Lit.int .i64 u.off).wf = true ∧ (Lit.int .i64 u.fin).wf = true) ∧ ((ea = none → el = 0) ∧ (ma = none → ml = 0) ∧ el ≤ maxLen ∧ ml ≤ maxLen) ∧
    Rw w B 5 P ea el u.els ∧ Rw w B 7 (MemP P) ma ml u.mem

def InN (w : World) (B : Nat) : (n : Nat) → List Value → Tr n → Prop
  | 0, _, _ => False
  | n + 1, cs, t => NodeP (α := Tr n) w B (InN w B n) cs t

theorem InN.keep {w w' : World} {B : Nat} (hf : From B w w') : ∀ (n : Nat) (cs : List Value) (t : Tr n), InN w B n cs t → InN w' B n cs t := by
  intro n
  induction n with
  | zero => intro cs t h; exact h.elim
  | succ n ih =>
    rintro cs t ⟨ea, el, ec, ma, ml, mc, h1, h2, h3, h4, h5⟩
    exact ⟨ea, el, ec, ma, ml, mc, h1, h2, h3, h4.keep hf (fun cs x h => ih cs x h), h5.keep hf (fun cs m ⟨r, a, b, c⟩ => ⟨r, a, b, ih r m.val c⟩)⟩

theorem InN.mono {w : World} {B B' : Nat} (hB : B' ≤ B) : ∀ (n : Nat) (cs : List Value) (t : Tr n), InN w B n cs t → InN w B' n cs t := by
  intro n
  induction n with
  | zero => intro cs t h; exact h.elim
  | succ n ih =>
    rintro cs t ⟨ea, el, ec, ma, ml, mc, h1, h2, h3, h4, h5⟩
    exact ⟨ea, el, ec, ma, ml, mc, h1, h2, h3, h4.mono hB (fun cs x h => ih cs x h), h5.mono hB (fun cs m ⟨r, a, b, c⟩ => ⟨r, a, b, ih r m.val c⟩)⟩

/-- A jsondoc.Value behind a pointer to block g. -/
def OutP {α : Type} (w : World) (B : Nat) (P : Nat → α → Prop) (g : Nat) (u : TrF α) : Prop :=
  B ≤ g ∧ g < w.heap.size ∧ ∃ b s1 s2 ea el ec ma ml mc, Cells w g 0 [.int .u8 u.kind, .int .i64 u.off, .int .i64 u.fin, .bool b, .string s1, .string s2, .slice ea el ec, .slice ma ml mc] ∧
    Rw w B 1 (fun cs x => ∃ h, cs = [.pointer (some ⟨h, 0, none⟩)] ∧ P h x) ea el u.els ∧ Rw w B 3 (fun cs m => ∃ h, cs = [.string m.name, .int .i64 m.off, .pointer (some ⟨h, 0, none⟩)] ∧ P h m.val) ma ml u.mem

def OutV (w : World) (B : Nat) : (n : Nat) → Nat → Tr n → Prop
  | 0, _, _ => False
  | n + 1, g, t => OutP (α := Tr n) w B (OutV w B n) g t

theorem OutV.keep {w w' : World} {B : Nat} (hf : From B w w') : ∀ (n : Nat) (g : Nat) (t : Tr n), OutV w B n g t → OutV w' B n g t := by
  intro n
  induction n with
  | zero => intro g t h; exact h.elim
  | succ n ih =>
    rintro g t ⟨hB, hg, b, s1, s2, ea, el, ec, ma, ml, mc, h1, h2, h3⟩
    exact ⟨hB, Nat.lt_of_lt_of_le hg hf.size, b, s1, s2, ea, el, ec, ma, ml, mc, h1.keep hf hB hg, h2.keep hf (fun cs x ⟨h, a, c⟩ => ⟨h, a, ih h x c⟩), h3.keep hf (fun cs m ⟨h, a, c⟩ => ⟨h, a, ih h m.val c⟩)⟩

theorem OutV.mono {w : World} {B B' : Nat} (hB' : B' ≤ B) : ∀ (n : Nat) (g : Nat) (t : Tr n), OutV w B n g t → OutV w B' n g t := by
  intro n
  induction n with
  | zero => intro g t h; exact h.elim
  | succ n ih =>
    rintro g t ⟨hB, hg, b, s1, s2, ea, el, ec, ma, ml, mc, h1, h2, h3⟩
    exact ⟨by omega, hg, b, s1, s2, ea, el, ec, ma, ml, mc, h1, h2.mono hB' (fun cs x ⟨h, a, c⟩ => ⟨h, a, ih h x c⟩), h3.mono hB' (fun cs m ⟨h, a, c⟩ => ⟨h, a, ih h m.val c⟩)⟩

/-- A block of the call's own, known whole. -/
theorem cells_of_block {w : World} {g : Nat} {cs : List Value} {t : TypeId} {fr : Nat × Nat} (h : w.heap[g]? = some (.cells cs.toArray t fr)) : Cells w g 0 cs := fun j _ => by
  rw [cell_of_row _ _ _ _ _ _ h, Nat.zero_add]; simp

theorem sum_take_succ {α : Type} (f : α → Nat) (l : List α) (k : Nat) (x : α) (h : l[k]? = some x) : ((l.take (k + 1)).map f).sum = ((l.take k).map f).sum + f x := by
  have hk := (List.getElem?_eq_some_iff.1 h).1
  have e : l[k] = x := (List.getElem?_eq_some_iff.1 h).2
  rw [List.take_succ_eq_append_getElem hk, List.map_append, List.sum_append, e]
  simp

end Go.Proofs.Qxb6630533aDoor
