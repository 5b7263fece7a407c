/-
  PLAIN: the trees that the two laws of seat b6630533aD speak of, by depth; what they weigh; the tree with every offset moved; the binary search; where PointerAt looks. No Go in sight.
-/
import Derived.RowKit
import Derived.Lib.ItoaNum
namespace Go.Proofs.Qxb6630533aDoor
open Go.RowKit

/-- A member of an object, its value of type α. -/
structure MemF (α : Type) where
  name : ByteArray
  off : Int
  val : α

/-- A node, its children of type α. -/
structure TrF (α : Type) where
  kind : Int
  off : Int
  fin : Int
  els : List α
  mem : List (MemF α)

/-- Trees of depth at most n: none at 0. -/
def Tr : Nat → Type
  | 0 => Empty
  | n + 1 => TrF (Tr n)

def offOf : (n : Nat) → Tr n → Int
  | 0, t => Empty.elim t
  | n + 1, t => TrF.off (α := Tr n) t
def finOf : (n : Nat) → Tr n → Int
  | 0, t => Empty.elim t
  | n + 1, t => TrF.fin (α := Tr n) t

/-- 64 bytes a node, 16 a member and its name. -/
def weight : (n : Nat) → Tr n → Nat
  | 0, t => Empty.elim t
  | n + 1, t => 64 + ((TrF.els (α := Tr n) t).map (weight n)).sum + ((TrF.mem (α := Tr n) t).map fun m => 16 + m.name.size + weight n m.val).sum

theorem weight_pos (n : Nat) (t : Tr n) : 64 ≤ weight n t := by
  cases n with
  | zero => exact Empty.elim t
  | succ n => unfold weight; omega

theorem sum_ge_mem {α : Type} (f : α → Nat) (l : List α) (x : α) (h : x ∈ l) : f x ≤ (l.map f).sum := by
  induction l with
  | nil => cases h
  | cons y r ih =>
    rw [List.map_cons, List.sum_cons]
    rcases List.mem_cons.1 h with rfl | h
    · omega
    · have := ih h; omega

theorem sum_ge_len {α : Type} (f : α → Nat) (c : Nat) (l : List α) (h : ∀ x, c ≤ f x) : l.length * c ≤ (l.map f).sum := by
  induction l with
  | nil => simp
  | cons y r ih =>
    rw [List.map_cons, List.sum_cons, List.length_cons]
    have := h y
    have e : (r.length + 1) * c = r.length * c + c := Nat.succ_mul _ _
    omega

theorem weight_els {n : Nat} (t : TrF (Tr n)) : t.els.length * 64 + 64 ≤ weight (n + 1) t := by
  have := sum_ge_len (weight n) 64 t.els (weight_pos n)
  show _ ≤ 64 + (t.els.map (weight n)).sum + _
  omega
theorem weight_mem {n : Nat} (t : TrF (Tr n)) : t.mem.length * 64 + 64 ≤ weight (n + 1) t := by
  have := sum_ge_len (fun m : MemF (Tr n) => 16 + m.name.size + weight n m.val) 64 t.mem (fun m => by have := weight_pos n m.val; omega)
  show _ ≤ 64 + _ + (t.mem.map _).sum
  omega
theorem weight_el {n : Nat} (t : TrF (Tr n)) (e : Tr n) (h : e ∈ t.els) : weight n e + 64 ≤ weight (n + 1) t := by
  have := sum_ge_mem (weight n) t.els e h
  show _ ≤ 64 + (t.els.map (weight n)).sum + _
  omega
theorem weight_me {n : Nat} (t : TrF (Tr n)) (m : MemF (Tr n)) (h : m ∈ t.mem) : weight n m.val + m.name.size + 64 ≤ weight (n + 1) t := by
  have := sum_ge_mem (fun m : MemF (Tr n) => 16 + m.name.size + weight n m.val) t.mem m h
  show _ ≤ 64 + _ + (t.mem.map _).sum
  omega

/-- The tree with every offset and end moved by d, as int's own arithmetic has it. -/
def shiftT (d : Int) : (n : Nat) → Tr n → Tr n
  | 0, t => Empty.elim t
  | n + 1, t =>
    let u : TrF (Tr n) := t
    (⟨u.kind, wrap64 (u.off + d), wrap64 (u.fin + d), u.els.map (shiftT d n), u.mem.map fun m => ⟨m.name, wrap64 (m.off + d), shiftT d n m.val⟩⟩ : TrF (Tr n))

/-- Every offset that PointerAt may read stays in int when moved by d. -/
def Fits (d : Int) : (n : Nat) → Tr n → Prop
  | 0, _ => True
  | n + 1, t =>
    let u : TrF (Tr n) := t
    wrap64 (u.off + d) = u.off + d ∧ wrap64 (u.fin + d) = u.fin + d ∧
    (u.kind = 4 → ∀ e ∈ u.els, Fits d n e) ∧ (u.kind = 5 → ∀ m ∈ u.mem, wrap64 (m.off + d) = m.off + d ∧ Fits d n m.val)

theorem offOf_shift {d : Int} {n : Nat} {t : Tr n} (h : Fits d n t) : offOf n (shiftT d n t) = offOf n t + d := by
  cases n with
  | zero => exact Empty.elim t
  | succ n => exact h.1
theorem finOf_shift {d : Int} {n : Nat} {t : Tr n} (h : Fits d n t) : finOf n (shiftT d n t) = finOf n t + d := by
  cases n with
  | zero => exact Empty.elim t
  | succ n => exact h.2.1

/-! ### the binary search -/
def cmpI (a b : Int) : Int := if a < b then -1 else if b < a then 1 else 0
theorem cmpI_shift (a b d : Int) : cmpI (a + d) (b + d) = cmpI a b := by
  unfold cmpI
  by_cases h1 : a < b
  · rw [if_pos h1, if_pos (by omega)]
  · rw [if_neg h1, if_neg (by omega)]
    by_cases h2 : b < a
    · rw [if_pos h2, if_pos (by omega)]
    · rw [if_neg h2, if_neg (by omega)]

def bsGo (cmp : Nat → Int) : Nat → Nat → Nat → Nat
  | 0, i, _ => i
  | f + 1, i, j => if i < j then (if cmp ((i + j) / 2) < 0 then bsGo cmp f ((i + j) / 2 + 1) j else bsGo cmp f i ((i + j) / 2)) else i

theorem bsGo_le (cmp : Nat → Int) (f i j : Nat) (h : i ≤ j) : bsGo cmp f i j ≤ j := by
  induction f generalizing i j with
  | zero => exact h
  | succ f ih =>
    unfold bsGo
    split
    · split
      · exact ih _ _ (by omega)
      · have := ih i ((i + j) / 2) (by omega); omega
    · exact h

theorem bsGo_congr {c1 c2 : Nat → Int} (f i j : Nat) (h : ∀ k, k < j → c1 k = c2 k) : bsGo c1 f i j = bsGo c2 f i j := by
  induction f generalizing i j with
  | zero => rfl
  | succ f ih =>
    unfold bsGo
    by_cases hij : i < j
    · rw [if_pos hij, if_pos hij, h ((i + j) / 2) (by omega), ih _ _ h, ih i ((i + j) / 2) (fun k hk => h k (by omega))]
    · rw [if_neg hij, if_neg hij]

def bsI (cmp : Nat → Int) (n : Nat) : Nat := bsGo cmp n 0 n
def bsF (cmp : Nat → Int) (n : Nat) : Bool := decide (bsI cmp n < n) && cmp (bsI cmp n) == 0
theorem bsI_le (cmp : Nat → Int) (n : Nat) : bsI cmp n ≤ n := bsGo_le cmp n 0 n (Nat.zero_le _)
theorem bsI_congr {c1 c2 : Nat → Int} (n : Nat) (h : ∀ k, k < n → c1 k = c2 k) : bsI c1 n = bsI c2 n := bsGo_congr n 0 n h
theorem bsF_congr {c1 c2 : Nat → Int} (n : Nat) (h : ∀ k, k < n → c1 k = c2 k) : bsF c1 n = bsF c2 n := by
  unfold bsF
  rw [bsI_congr n h]
  by_cases hl : bsI c2 n < n
  · rw [h _ hl]
  · simp [hl]

/-! ### where PointerAt looks -/
def offAt {n : Nat} (l : List (Tr n)) (h : Nat) : Int := match l[h]? with | some e => offOf n e | none => 0
def moffAt {n : Nat} (l : List (MemF (Tr n))) (h : Nat) : Int := match l[h]? with | some m => m.off | none => 0

/-- An index as a token. -/
def tokI (i : Nat) : ByteArray := ⟨(Lib.itoa (i : Int)).toArray⟩

/-- One layer of the search: 'rec' goes on below. -/
def ptStep {n : Nat} (rec : Tr n → Option (List ByteArray)) (x : Int) (u : TrF (Tr n)) : Option (List ByteArray) :=
  if u.off = x then some []
  else if u.kind = 4 then
    match (if bsF (fun h => cmpI (offAt u.els h) x) u.els.length = true then bsI (fun h => cmpI (offAt u.els h) x) u.els.length + 1 else bsI (fun h => cmpI (offAt u.els h) x) u.els.length) with
    | 0 => none
    | i + 1 => match u.els[i]? with
      | none => none
      | some e => if finOf n e ≤ x then none else (rec e).map (tokI i :: ·)
  else if u.kind = 5 then
    if bsF (fun h => cmpI (moffAt u.mem h) x) u.mem.length = true then (u.mem[bsI (fun h => cmpI (moffAt u.mem h) x) u.mem.length]?).map fun m => [m.name]
    else match bsI (fun h => cmpI (moffAt u.mem h) x) u.mem.length with
    | 0 => none
    | i + 1 => match u.mem[i]? with
      | none => none
      | some m => if finOf n m.val ≤ x then none else (rec m.val).map (m.name :: ·)
  else none

/-- The tokens of the place that PointerAt names, from the top down, or none. -/
def ptAt (x : Int) : (n : Nat) → Tr n → Option (List ByteArray)
  | 0, t => Empty.elim t
  | n + 1, t => ptStep (ptAt x n) x t

theorem offAt_shift {d : Int} {n : Nat} (l : List (Tr n)) (hf : ∀ e ∈ l, Fits d n e) (k : Nat) (hk : k < l.length) : offAt (l.map (shiftT d n)) k = offAt l k + d := by
  unfold offAt
  rw [List.getElem?_map, List.getElem?_eq_getElem hk]
  exact offOf_shift (hf _ (List.getElem_mem hk))

theorem moffAt_shift {d : Int} {n : Nat} (l : List (MemF (Tr n))) (hf : ∀ m ∈ l, wrap64 (m.off + d) = m.off + d ∧ Fits d n m.val) (k : Nat) (hk : k < l.length) :
    moffAt (l.map fun m => (⟨m.name, wrap64 (m.off + d), shiftT d n m.val⟩ : MemF (Tr n))) k = moffAt l k + d := by
  unfold moffAt
  rw [List.getElem?_map, List.getElem?_eq_getElem hk]
  exact (hf _ (List.getElem_mem hk)).1

/-- THE LAW: moved tree, moved place: the same answer. -/
theorem ptAt_shift (d x : Int) : ∀ (n : Nat) (t : Tr n), Fits d n t → ptAt (x + d) n (shiftT d n t) = ptAt x n t := by
  intro n
  induction n with
  | zero => intro t; exact Empty.elim t
  | succ n ih =>
    intro t hF
    obtain ⟨kind, off, fin, els, mem⟩ := (t : TrF (Tr n))
    obtain ⟨h1, h2, h3, h4⟩ := hF
    simp only at h1 h2 h3 h4
    show ptStep (ptAt (x + d) n) (x + d) (⟨kind, wrap64 (off + d), wrap64 (fin + d), els.map (shiftT d n), mem.map fun m => ⟨m.name, wrap64 (m.off + d), shiftT d n m.val⟩⟩ : TrF (Tr n)) = ptStep (ptAt x n) x (⟨kind, off, fin, els, mem⟩ : TrF (Tr n))
    unfold ptStep
    simp only [h1, List.length_map]
    by_cases hx : off = x
    · rw [if_pos hx, if_pos (by omega)]
    · rw [if_neg hx, if_neg (by omega)]
      by_cases h4' : kind = 4
      · rw [if_pos h4', if_pos h4']
        have hf := h3 h4'
        have hc : ∀ k, k < els.length → cmpI (offAt (els.map (shiftT d n)) k) (x + d) = cmpI (offAt els k) x := fun k hk => by rw [offAt_shift els hf k hk, cmpI_shift]
        rw [bsI_congr _ hc, bsF_congr _ hc]
        generalize (if bsF (fun h => cmpI (offAt els h) x) els.length = true then bsI (fun h => cmpI (offAt els h) x) els.length + 1 else bsI (fun h => cmpI (offAt els h) x) els.length) = k
        cases k with
        | zero => rfl
        | succ i =>
          simp only [List.getElem?_map]
          cases he : els[i]? with
          | none => rfl
          | some e =>
            have hfe := hf e (List.mem_of_getElem? he)
            simp only [Option.map_some]
            rw [finOf_shift hfe, ih e hfe]
            by_cases hle : finOf n e ≤ x
            · rw [if_pos hle, if_pos (by omega)]
            · rw [if_neg hle, if_neg (by omega)]
      · rw [if_neg h4', if_neg h4']
        by_cases h5' : kind = 5
        · rw [if_pos h5', if_pos h5']
          have hf := h4 h5'
          have hc : ∀ k, k < mem.length → cmpI (moffAt (mem.map fun m => (⟨m.name, wrap64 (m.off + d), shiftT d n m.val⟩ : MemF (Tr n))) k) (x + d) = cmpI (moffAt mem k) x := fun k hk => by rw [moffAt_shift mem hf k hk, cmpI_shift]
          rw [bsI_congr _ hc, bsF_congr _ hc]
          by_cases hb : bsF (fun h => cmpI (moffAt mem h) x) mem.length = true
          · rw [if_pos hb, if_pos hb]
            simp only [List.getElem?_map, Option.map_map]
            rfl
          · rw [if_neg hb, if_neg hb]
            generalize bsI (fun h => cmpI (moffAt mem h) x) mem.length = k
            cases k with
            | zero => rfl
            | succ i =>
              simp only [List.getElem?_map]
              cases he : mem[i]? with
              | none => rfl
              | some m =>
                have hfe := (hf m (List.mem_of_getElem? he)).2
                simp only [Option.map_some]
                rw [finOf_shift hfe, ih m.val hfe]
                by_cases hle : finOf n m.val ≤ x
                · rw [if_pos hle, if_pos (by omega)]
                · rw [if_neg hle, if_neg (by omega)]
        · rw [if_neg h5', if_neg h5']

theorem ptAt_root (n : Nat) (t : Tr n) : ptAt (offOf n t) n t = some [] := by
  cases n with
  | zero => exact Empty.elim t
  | succ n => unfold ptAt; exact if_pos rfl

end Go.Proofs.Qxb6630533aDoor
