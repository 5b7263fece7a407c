/-
  PLAIN: trees laid out as a parsed document lays them out; the search of the whole tree; in such a tree PointerAt's way finds what the search finds. No Go in sight.
-/
import Derived.Test.Qxb6630533aDoorTree
namespace Go.Proofs.Qxb6630533aDoor
open Go.RowKit

/-- What zzjdLaidOut asks. -/
def Laid : (n : Nat) → Tr n → Prop
  | 0, _ => True
  | n + 1, t =>
    let u : TrF (Tr n) := t
    u.off < u.fin ∧
    (u.kind = 4 → ∀ i e, u.els[i]? = some e → u.off < offOf n e ∧ finOf n e ≤ u.fin ∧ (∀ k e', i = k + 1 → u.els[k]? = some e' → finOf n e' ≤ offOf n e) ∧ Laid n e) ∧
    (u.kind = 5 → ∀ i m, u.mem[i]? = some m → u.off < m.off ∧ m.off < offOf n m.val ∧ finOf n m.val ≤ u.fin ∧ (∀ k m', i = k + 1 → u.mem[k]? = some m' → finOf n m'.val ≤ m.off) ∧ Laid n m.val)

/-- The search through an array's elements, the first at place i. -/
def fpEls {α : Type} (rec : α → Option (List ByteArray)) : Nat → List α → Option (List ByteArray)
  | _, [] => none
  | i, e :: r => match rec e with
    | some T => some (tokI i :: T)
    | none => fpEls rec (i + 1) r

/-- The search through an object's members. -/
def fpMem {α : Type} (rec : α → Option (List ByteArray)) (x : Int) : List (MemF α) → Option (List ByteArray)
  | [] => none
  | m :: r => if m.off = x then some [m.name] else match rec m.val with
    | some T => some (m.name :: T)
    | none => fpMem rec x r

/-- The search of the whole tree: the tokens from the top down. -/
def fpAt (x : Int) : (n : Nat) → Tr n → Option (List ByteArray)
  | 0, t => Empty.elim t
  | n + 1, t =>
    let u : TrF (Tr n) := t
    if u.off = x then some [] else if u.kind = 4 then fpEls (fpAt x n) 0 u.els else if u.kind = 5 then fpMem (fpAt x n) x u.mem else none

theorem fpEls_none {α : Type} {rec : α → Option (List ByteArray)} : ∀ (l : List α) (i : Nat), (∀ (k : Nat) (e : α), l[k]? = some e → rec e = none) → fpEls rec i l = none := by
  intro l
  induction l with
  | nil => intro i _; rfl
  | cons a r ih =>
    intro i h
    rw [fpEls, h 0 a rfl]
    exact ih (i + 1) (fun k e he => h (k + 1) e he)

theorem fpEls_only {α : Type} {rec : α → Option (List ByteArray)} : ∀ (l : List α) (i j : Nat) (ej : α), l[j]? = some ej → (∀ k e, l[k]? = some e → k ≠ j → rec e = none) → fpEls rec i l = (rec ej).map (tokI (i + j) :: ·) := by
  intro l
  induction l with
  | nil => intro i j ej h; simp at h
  | cons a r ih =>
    intro i j ej h hn
    cases j with
    | zero =>
      obtain rfl : a = ej := by simpa using h
      rw [fpEls]
      cases hr : rec a with
      | some T => rfl
      | none => exact fpEls_none r (i + 1) (fun k e he => hn (k + 1) e he (by omega))
    | succ j =>
      rw [fpEls, hn 0 a rfl (by omega)]
      have := ih (i + 1) j ej (by simpa using h) (fun k e he hk => hn (k + 1) e he (by omega))
      rw [show i + 1 + j = i + (j + 1) by omega] at this
      exact this

theorem fpMem_none {α : Type} {rec : α → Option (List ByteArray)} {x : Int} : ∀ (l : List (MemF α)), (∀ (k : Nat) (m : MemF α), l[k]? = some m → m.off ≠ x ∧ rec m.val = none) → fpMem rec x l = none := by
  intro l
  induction l with
  | nil => intro _; rfl
  | cons a r ih =>
    intro h
    rw [fpMem, if_neg (h 0 a rfl).1, (h 0 a rfl).2]
    exact ih (fun k e he => h (k + 1) e he)

theorem fpMem_only {α : Type} {rec : α → Option (List ByteArray)} {x : Int} : ∀ (l : List (MemF α)) (j : Nat) (mj : MemF α), l[j]? = some mj → (∀ k m, l[k]? = some m → k ≠ j → m.off ≠ x ∧ rec m.val = none) →
    fpMem rec x l = if mj.off = x then some [mj.name] else (rec mj.val).map (mj.name :: ·) := by
  intro l
  induction l with
  | nil => intro j ej h; simp at h
  | cons a r ih =>
    intro j ej h hn
    cases j with
    | zero =>
      obtain rfl : a = ej := by simpa using h
      rw [fpMem]
      by_cases hx : a.off = x
      · rw [if_pos hx, if_pos hx]
      · rw [if_neg hx, if_neg hx]
        cases hr : rec a.val with
        | some T => rfl
        | none => exact fpMem_none r (fun k e he => hn (k + 1) e he (by omega))
    | succ j =>
      rw [fpMem, if_neg (hn 0 a rfl (by omega)).1, (hn 0 a rfl (by omega)).2]
      exact ih j ej (by simpa using h) (fun k e he hk => hn (k + 1) e he (by omega))

/-- Where the search is found before place k. -/
theorem fpEls_hit {α : Type} {rec : α → Option (List ByteArray)} : ∀ (l : List α) (i k : Nat) (e : α) (T : List ByteArray), l[k]? = some e → rec e = some T → (∀ j u, j < k → l[j]? = some u → rec u = none) → fpEls rec i l = some (tokI (i + k) :: T) := by
  intro l
  induction l with
  | nil => intro i k e T h; simp at h
  | cons a r ih =>
    intro i k e T h hr hn
    cases k with
    | zero =>
      obtain rfl : a = e := by simpa using h
      rw [fpEls, hr]; rfl
    | succ k =>
      rw [fpEls, hn 0 a (by omega) rfl]
      have := ih (i + 1) k e T (by simpa using h) hr (fun j u hj hu => hn (j + 1) u (by omega) hu)
      rw [show i + 1 + k = i + (k + 1) by omega] at this
      exact this

theorem fpMem_name {α : Type} {rec : α → Option (List ByteArray)} {x : Int} : ∀ (l : List (MemF α)) (k : Nat) (m : MemF α), l[k]? = some m → m.off = x → (∀ j u, j < k → l[j]? = some u → u.off ≠ x ∧ rec u.val = none) → fpMem rec x l = some [m.name] := by
  intro l
  induction l with
  | nil => intro k e h; simp at h
  | cons a r ih =>
    intro k m h hx hn
    cases k with
    | zero =>
      obtain rfl : a = m := by simpa using h
      rw [fpMem, if_pos hx]
    | succ k =>
      rw [fpMem, if_neg (hn 0 a (by omega) rfl).1, (hn 0 a (by omega) rfl).2]
      exact ih k m (by simpa using h) hx (fun j u hj hu => hn (j + 1) u (by omega) hu)

theorem fpMem_hit {α : Type} {rec : α → Option (List ByteArray)} {x : Int} : ∀ (l : List (MemF α)) (k : Nat) (m : MemF α) (T : List ByteArray), l[k]? = some m → m.off ≠ x → rec m.val = some T → (∀ j u, j < k → l[j]? = some u → u.off ≠ x ∧ rec u.val = none) → fpMem rec x l = some (m.name :: T) := by
  intro l
  induction l with
  | nil => intro k e T h; simp at h
  | cons a r ih =>
    intro k m T h hx hr hn
    cases k with
    | zero =>
      obtain rfl : a = m := by simpa using h
      rw [fpMem, if_neg hx, hr]
    | succ k =>
      rw [fpMem, if_neg (hn 0 a (by omega) rfl).1, (hn 0 a (by omega) rfl).2]
      exact ih k m T (by simpa using h) hx hr (fun j u hj hu => hn (j + 1) u (by omega) hu)

/-! ### the binary search over what rises -/
theorem bsGo_spec (c : Nat → Int) (len : Nat) (hmono : ∀ a b, a ≤ b → b < len → 0 ≤ c a → 0 ≤ c b) : ∀ (f i j : Nat), i ≤ j → j ≤ len → j - i ≤ f → (∀ k, k < i → c k < 0) → (∀ k, j ≤ k → k < len → 0 ≤ c k) →
    (∀ k, k < bsGo c f i j → c k < 0) ∧ (∀ k, bsGo c f i j ≤ k → k < len → 0 ≤ c k) := by
  intro f
  induction f with
  | zero =>
    intro i j h1 h2 h3 h4 h5
    have e : j = i := by omega
    subst e
    exact ⟨h4, h5⟩
  | succ f ih =>
    intro i j h1 h2 h3 h4 h5
    rw [bsGo]
    by_cases hij : i < j
    · rw [if_pos hij]
      by_cases hc : c ((i + j) / 2) < 0
      · rw [if_pos hc]
        refine ih _ _ (by omega) h2 (by omega) (fun k hk => ?_) h5
        rcases (by omega : c k < 0 ∨ 0 ≤ c k) with h | h
        · exact h
        · have := hmono k ((i + j) / 2) (by omega) (by omega) h
          omega
      · rw [if_neg hc]
        exact ih _ _ (by omega) (by omega) (by omega) h4 (fun k hk hl => hmono ((i + j) / 2) k hk hl (by omega))
    · rw [if_neg hij]
      have e : j = i := by omega
      subst e
      exact ⟨h4, h5⟩

theorem bsI_spec (c : Nat → Int) (len : Nat) (hmono : ∀ a b, a ≤ b → b < len → 0 ≤ c a → 0 ≤ c b) : (∀ k, k < bsI c len → c k < 0) ∧ (∀ k, bsI c len ≤ k → k < len → 0 ≤ c k) :=
  bsGo_spec c len hmono len 0 len (Nat.zero_le _) (Nat.le_refl _) (by omega) (fun k hk => absurd hk (by omega)) (fun k h1 h2 => absurd h1 (by omega))

theorem cmpI_lt {a b : Int} : cmpI a b < 0 ↔ a < b := by
  unfold cmpI
  by_cases h1 : a < b
  · rw [if_pos h1]; simp [h1]
  · rw [if_neg h1]
    by_cases h2 : b < a
    · rw [if_pos h2]; simp [h1]
    · rw [if_neg h2]; simp [h1]
theorem cmpI_zero {a b : Int} : cmpI a b = 0 ↔ a = b := by
  unfold cmpI
  by_cases h1 : a < b
  · rw [if_pos h1]; simp; omega
  · rw [if_neg h1]
    by_cases h2 : b < a
    · rw [if_pos h2]; simp; omega
    · rw [if_neg h2]; simp; omega

/-- Starts a, ends b, one behind the other: what the search says of them. -/
theorem search_rise (a b : Nat → Int) (len : Nat) (x : Int) (hab : ∀ k, k < len → a k < b k) (hba : ∀ k, k + 1 < len → b k ≤ a (k + 1)) :
    (bsF (fun k => cmpI (a k) x) len = false ∧ bsI (fun k => cmpI (a k) x) len = 0 ∧ ∀ k, k < len → x < a k) ∨
    ∃ j, j < len ∧ bsI (fun k => cmpI (a k) x) len = (if bsF (fun k => cmpI (a k) x) len then j else j + 1) ∧ (bsF (fun k => cmpI (a k) x) len = true ↔ a j = x) ∧ a j ≤ x ∧ (∀ k, k < j → b k ≤ a j) ∧ (∀ k, j < k → k < len → x < a k) := by
  have hlt : ∀ d k, k + d + 1 < len → b k ≤ a (k + d + 1) := by
    intro d
    induction d with
    | zero => intro k hk; exact hba k hk
    | succ d ih =>
      intro k hk
      have h1 := ih k (by omega)
      have h2 := hab (k + d + 1) (by omega)
      have h3 := hba (k + d + 1) (by omega)
      rw [show k + (d + 1) + 1 = k + d + 1 + 1 by omega]
      omega
  have hlt' : ∀ i j, i < j → j < len → b i ≤ a j := by
    intro i j hij hj
    have := hlt (j - i - 1) i (by omega)
    rw [show i + (j - i - 1) + 1 = j by omega] at this
    exact this
  have hle : ∀ i j, i ≤ j → j < len → a i ≤ a j := by
    intro i j hij hj
    rcases Nat.eq_or_lt_of_le hij with rfl | h
    · exact Int.le_refl _
    · have := hlt' i j h hj; have := hab i (by omega); omega
  have hmono : ∀ i j, i ≤ j → j < len → 0 ≤ cmpI (a i) x → 0 ≤ cmpI (a j) x := by
    intro i j hij hj h
    rcases (by omega : cmpI (a j) x < 0 ∨ 0 ≤ cmpI (a j) x) with h' | h'
    · have h1 := cmpI_lt.1 h'
      have h2 := hle i j hij hj
      have h3 : cmpI (a i) x < 0 := cmpI_lt.2 (by omega)
      omega
    · exact h'
  obtain ⟨s1, s2⟩ := bsI_spec (fun k => cmpI (a k) x) len hmono
  have hIle := bsI_le (fun k => cmpI (a k) x) len
  have hge : ∀ k, bsI (fun k => cmpI (a k) x) len ≤ k → k < len → x ≤ a k := by
    intro k h1 h2
    have h3 := s2 k h1 h2
    rcases (by omega : a k < x ∨ x ≤ a k) with h | h
    · have h4 : cmpI (a k) x < 0 := cmpI_lt.2 h
      have h5 : 0 ≤ cmpI (a k) x := h3
      omega
    · exact h
  have hlo : ∀ k, k < bsI (fun k => cmpI (a k) x) len → a k < x := fun k hk => cmpI_lt.1 (s1 k hk)
  have hFdef : bsF (fun k => cmpI (a k) x) len = (decide (bsI (fun k => cmpI (a k) x) len < len) && cmpI (a (bsI (fun k => cmpI (a k) x) len)) x == 0) := rfl
  generalize hI : bsI (fun k => cmpI (a k) x) len = I at *
  cases hF : bsF (fun k => cmpI (a k) x) len with
  | true =>
    rw [hF] at hFdef
    have hh := hFdef.symm
    rw [Bool.and_eq_true, decide_eq_true_eq, beq_iff_eq] at hh
    have hx := cmpI_zero.1 hh.2
    refine .inr ⟨I, hh.1, rfl, ⟨fun _ => hx, fun _ => rfl⟩, by omega, fun k hk => hlt' k I hk hh.1, fun k h1 h2 => ?_⟩
    have := hlt' I k h1 h2
    have := hab I hh.1
    omega
  | false =>
    have hne : I < len → a I ≠ x := by
      intro h1 h2
      rw [hF, decide_eq_true h1, cmpI_zero.2 h2] at hFdef
      simp at hFdef
    have hgt : ∀ k, I ≤ k → k < len → x < a k := by
      intro k h1 h2
      have h3 := hge k h1 h2
      have h4 := hge I (Nat.le_refl _) (by omega)
      have h5 := hne (by omega)
      have h6 := hle I k h1 h2
      omega
    cases I with
    | zero => exact .inl ⟨rfl, rfl, fun k hk => hgt k (Nat.zero_le _) hk⟩
    | succ j =>
      have hj := hlo j (by omega)
      exact .inr ⟨j, by omega, rfl, ⟨fun h => (by cases h), fun h => (by omega)⟩, by omega, fun k hk => hlt' k j hk (by omega), fun k h1 h2 => hgt k (by omega) h2⟩

/-! ### the law -/
def finAt {n : Nat} (l : List (Tr n)) (h : Nat) : Int := match l[h]? with | some e => finOf n e | none => 0
def mfinAt {n : Nat} (l : List (MemF (Tr n))) (h : Nat) : Int := match l[h]? with | some m => finOf n m.val | none => 0

theorem offAt_of {n : Nat} {l : List (Tr n)} {k : Nat} {e : Tr n} (h : l[k]? = some e) : offAt l k = offOf n e := by unfold offAt; rw [h]
theorem finAt_of {n : Nat} {l : List (Tr n)} {k : Nat} {e : Tr n} (h : l[k]? = some e) : finAt l k = finOf n e := by unfold finAt; rw [h]
theorem moffAt_of {n : Nat} {l : List (MemF (Tr n))} {k : Nat} {e : MemF (Tr n)} (h : l[k]? = some e) : moffAt l k = e.off := by unfold moffAt; rw [h]
theorem mfinAt_of {n : Nat} {l : List (MemF (Tr n))} {k : Nat} {e : MemF (Tr n)} (h : l[k]? = some e) : mfinAt l k = finOf n e.val := by unfold mfinAt; rw [h]

theorem Laid.lt {n : Nat} {t : Tr n} (h : Laid n t) : offOf n t < finOf n t := by
  cases n with
  | zero => exact Empty.elim t
  | succ n => exact h.1

/-- What is found lies between the node's ends. -/
theorem fpAt_range (x : Int) : ∀ (n : Nat) (t : Tr n), Laid n t → fpAt x n t ≠ none → offOf n t ≤ x ∧ x < finOf n t := by
  intro n
  induction n with
  | zero => intro t; exact Empty.elim t
  | succ n ih =>
    intro t hL hne
    obtain ⟨kind, off, fin, els, mem⟩ := (t : TrF (Tr n))
    obtain ⟨h1, h4, h5⟩ := hL
    simp only at h1 h4 h5
    show off ≤ x ∧ x < fin
    by_cases hx : off = x
    · omega
    · have e1 : fpAt x (n + 1) (⟨kind, off, fin, els, mem⟩ : TrF (Tr n)) = if kind = 4 then fpEls (fpAt x n) 0 els else if kind = 5 then fpMem (fpAt x n) x mem else none := by
        show (if off = x then some [] else _) = _
        rw [if_neg hx]
      rw [e1] at hne
      by_cases hk4 : kind = 4
      · rw [if_pos hk4] at hne
        rcases Classical.em (∃ (k : Nat) (e : Tr n), els[k]? = some e ∧ fpAt x n e ≠ none) with ⟨k, e, he, hn⟩ | hno
        · obtain ⟨g1, g2, _, g4⟩ := h4 hk4 k e he
          have := ih e g4 hn
          omega
        · exact absurd (fpEls_none els 0 (fun k e he => Classical.byContradiction fun hn => hno ⟨k, e, he, hn⟩)) hne
      · rw [if_neg hk4] at hne
        by_cases hk5 : kind = 5
        · rw [if_pos hk5] at hne
          rcases Classical.em (∃ (k : Nat) (m : MemF (Tr n)), mem[k]? = some m ∧ (m.off = x ∨ fpAt x n m.val ≠ none)) with ⟨k, m, hm, hn⟩ | hno
          · obtain ⟨g1, g2, g3, _, g5⟩ := h5 hk5 k m hm
            have g6 := g5.lt
            rcases hn with hn | hn
            · omega
            · have := ih m.val g5 hn
              omega
          · exact absurd (fpMem_none mem (fun k m hm => ⟨fun h => hno ⟨k, m, hm, .inl h⟩, Classical.byContradiction fun hn => hno ⟨k, m, hm, .inr hn⟩⟩)) hne
        · rw [if_neg hk5] at hne
          exact absurd rfl hne

theorem fpAt_out {x : Int} {n : Nat} {t : Tr n} (hL : Laid n t) (h : x < offOf n t ∨ finOf n t ≤ x) : fpAt x n t = none :=
  Classical.byContradiction fun hn => by have := fpAt_range x n t hL hn; omega

/-- THE LAW: in a tree that is laid out, PointerAt's way finds what the search of the whole tree finds. -/
theorem ptAt_eq_fpAt (x : Int) : ∀ (n : Nat) (t : Tr n), Laid n t → ptAt x n t = fpAt x n t := by
  intro n
  induction n with
  | zero => intro t; exact Empty.elim t
  | succ n ih =>
    intro t hL
    obtain ⟨kind, off, fin, els, mem⟩ := (t : TrF (Tr n))
    obtain ⟨h1, h4, h5⟩ := hL
    simp only at h1 h4 h5
    show ptStep (ptAt x n) x (⟨kind, off, fin, els, mem⟩ : TrF (Tr n)) = (if off = x then some [] else if kind = 4 then fpEls (fpAt x n) 0 els else if kind = 5 then fpMem (fpAt x n) x mem else none)
    by_cases hx : off = x
    · unfold ptStep
      simp only [if_pos hx]
    rw [if_neg hx]
    by_cases hk4 : kind = 4
    · rw [if_pos hk4]
      subst hk4
      have hall := h4 rfl
      have hat : ∀ k, k < els.length → ∃ e, els[k]? = some e := fun k hk => ⟨els[k], by simp⟩
      rcases search_rise (offAt els) (finAt els) els.length x
          (fun k hk => by obtain ⟨e, he⟩ := hat k hk; rw [offAt_of he, finAt_of he]; exact (hall k e he).2.2.2.lt)
          (fun k hk => by obtain ⟨e, he⟩ := hat k (by omega); obtain ⟨e', he'⟩ := hat (k + 1) hk; rw [finAt_of he, offAt_of he']; exact (hall (k + 1) e' he').2.2.1 k e rfl he) with ⟨hF, hI, hno⟩ | ⟨j, hj, hI, hFj, haj, hbk, hak⟩
      · have e1 : fpEls (fpAt x n) 0 els = none := fpEls_none els 0 (fun k e he => by
          have hk := (List.getElem?_eq_some_iff.1 he).1
          have := hno k hk
          rw [offAt_of he] at this
          exact fpAt_out (hall k e he).2.2.2 (.inl this))
        rw [e1]
        unfold ptStep
        simp only [if_neg hx, if_true, hF, hI]
        rfl
      · obtain ⟨e, he⟩ := hat j hj
        have e1 : fpEls (fpAt x n) 0 els = (fpAt x n e).map (tokI (0 + j) :: ·) := fpEls_only els 0 j e he (fun k u hu hk => by
          have hkl := (List.getElem?_eq_some_iff.1 hu).1
          rcases Nat.lt_or_ge k j with h | h
          · have := hbk k h
            rw [finAt_of hu] at this
            exact fpAt_out (hall k u hu).2.2.2 (.inr (by omega))
          · have := hak k (by omega) hkl
            rw [offAt_of hu] at this
            exact fpAt_out (hall k u hu).2.2.2 (.inl this))
        rw [e1, Nat.zero_add]
        have e2 : ptStep (ptAt x n) x (⟨4, off, fin, els, mem⟩ : TrF (Tr n)) = if finOf n e ≤ x then none else (ptAt x n e).map (tokI j :: ·) := by
          unfold ptStep
          simp only [if_neg hx, if_true, hI]
          cases hF : bsF (fun h => cmpI (offAt els h) x) els.length
          · simp only [Bool.false_eq_true, if_false, he]
          · simp only [if_true, he]
        rw [e2, ih e (hall j e he).2.2.2]
        by_cases hle : finOf n e ≤ x
        · rw [if_pos hle, fpAt_out (hall j e he).2.2.2 (.inr hle)]; rfl
        · rw [if_neg hle]
    · rw [if_neg hk4]
      by_cases hk5 : kind = 5
      · rw [if_pos hk5]
        subst hk5
        have hall := h5 rfl
        have hat : ∀ k, k < mem.length → ∃ e, mem[k]? = some e := fun k hk => ⟨mem[k], by simp⟩
        have n54 : ¬ (5 : Int) = 4 := by decide
        rcases search_rise (moffAt mem) (mfinAt mem) mem.length x
            (fun k hk => by obtain ⟨e, he⟩ := hat k hk; rw [moffAt_of he, mfinAt_of he]; have := (hall k e he).2.2.2.2.lt; have := (hall k e he).2.1; omega)
            (fun k hk => by obtain ⟨e, he⟩ := hat k (by omega); obtain ⟨e', he'⟩ := hat (k + 1) hk; rw [mfinAt_of he, moffAt_of he']; exact (hall (k + 1) e' he').2.2.2.1 k e rfl he) with ⟨hF, hI, hno⟩ | ⟨j, hj, hI, hFj, haj, hbk, hak⟩
        · have e1 : fpMem (fpAt x n) x mem = none := fpMem_none mem (fun k e he => by
            have hk := (List.getElem?_eq_some_iff.1 he).1
            have := hno k hk
            rw [moffAt_of he] at this
            exact ⟨by omega, fpAt_out (hall k e he).2.2.2.2 (.inl (by have := (hall k e he).2.1; omega))⟩)
          rw [e1]
          unfold ptStep
          simp only [if_neg hx, if_neg n54, if_true, hF, hI]
          rfl
        · obtain ⟨e, he⟩ := hat j hj
          rw [moffAt_of he] at hFj haj
          have e1 : fpMem (fpAt x n) x mem = if e.off = x then some [e.name] else (fpAt x n e.val).map (e.name :: ·) := fpMem_only mem j e he (fun k u hu hk => by
            have hkl := (List.getElem?_eq_some_iff.1 hu).1
            have g := hall k u hu
            have gl := g.2.2.2.2.lt
            have g1 := g.2.1
            rcases Nat.lt_or_ge k j with h | h
            · have := hbk k h
              rw [mfinAt_of hu, moffAt_of he] at this
              exact ⟨by omega, fpAt_out g.2.2.2.2 (.inr (by omega))⟩
            · have := hak k (by omega) hkl
              rw [moffAt_of hu] at this
              exact ⟨by omega, fpAt_out g.2.2.2.2 (.inl (by omega))⟩)
          rw [e1]
          unfold ptStep
          simp only [if_neg hx, if_neg n54, if_true, hI]
          cases hF : bsF (fun h => cmpI (moffAt mem h) x) mem.length
          · have hne : ¬ e.off = x := fun h => by have := hFj.2 h; rw [hF] at this; cases this
            simp only [Bool.false_eq_true, if_false, he, if_neg hne]
            rw [ih e.val (hall j e he).2.2.2.2]
            by_cases hle : finOf n e.val ≤ x
            · rw [if_pos hle, fpAt_out (hall j e he).2.2.2.2 (.inr hle)]; rfl
            · rw [if_neg hle]
          · have heq : e.off = x := hFj.1 hF
            simp only [if_true, he, if_pos heq, Option.map_some]
      · rw [if_neg hk5]
        unfold ptStep
        simp only [if_neg hx, if_neg hk4, if_neg hk5]

end Go.Proofs.Qxb6630533aDoor
