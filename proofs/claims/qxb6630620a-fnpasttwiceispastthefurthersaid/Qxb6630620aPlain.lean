/-
  PLAIN LAWS for seat b6630620a: byte order on strings, what going past a key does, and the two laws, with no Go in sight.
-/
import GoSem.Op.String
import Derived.Laws.StructEq
namespace Go.Proofs.Qxb6630620a

/-- Byte order, as the model's '<' on strings has it. -/
def less (a b : ByteArray) : Bool := Op.bytesLess a.toList b.toList

section lists
open Go.Op

theorem ls_irrefl (a : List UInt8) : bytesLess a a = false := by
  induction a with
  | nil => rfl
  | cons x r ih => simp [bytesLess, ih]

theorem ls_nil (a : List UInt8) : bytesLess a [] = false := by cases a <;> rfl

theorem ls_trans (a b c : List UInt8) (h1 : bytesLess a b = true) (h2 : bytesLess b c = true) : bytesLess a c = true := by
  induction a generalizing b c with
  | nil =>
    cases c with
    | nil => rw [ls_nil] at h2; cases h2
    | cons => rfl
  | cons x r ih =>
    cases b with
    | nil => rw [ls_nil] at h1; cases h1
    | cons y s =>
      cases c with
      | nil => rw [ls_nil] at h2; cases h2
      | cons z t =>
        simp only [bytesLess, Bool.or_eq_true, Bool.and_eq_true, decide_eq_true_eq, beq_iff_eq] at h1 h2 ⊢
        rcases h1 with h1 | ⟨rfl, h1⟩
        · rcases h2 with h2 | ⟨rfl, h2⟩
          · left; simp only [UInt8.lt_iff_toNat_lt] at *; omega
          · left; exact h1
        · rcases h2 with h2 | ⟨rfl, h2⟩
          · left; exact h2
          · right; exact ⟨rfl, ih _ _ h1 h2⟩

theorem ls_total (a b : List UInt8) (h1 : bytesLess a b = false) (h2 : bytesLess b a = false) : a = b := by
  induction a generalizing b with
  | nil =>
    cases b with
    | nil => rfl
    | cons => simp [bytesLess] at h1
  | cons x r ih =>
    cases b with
    | nil => simp [bytesLess] at h2
    | cons y s =>
      simp only [bytesLess, Bool.or_eq_false_iff, Bool.and_eq_false_iff, decide_eq_false_iff_not, beq_eq_false_iff_ne] at h1 h2
      have e : x = y := by
        have a1 := h1.1
        have a2 := h2.1
        simp only [UInt8.lt_iff_toNat_lt] at a1 a2
        apply UInt8.toNat_inj.1; omega
      subst e
      have b1 : bytesLess r s = false := by rcases h1.2 with h | h; exact absurd rfl h; exact h
      have b2 : bytesLess s r = false := by rcases h2.2 with h | h; exact absurd rfl h; exact h
      rw [ih s b1 b2]

/-- Below the successor of key lie key and what is below it. -/
theorem ls_succ (k key : List UInt8) : bytesLess k (key ++ [0]) = !bytesLess key k := by
  induction key generalizing k with
  | nil =>
    cases k with
    | nil => rfl
    | cons c r => simp [bytesLess, ls_nil]
  | cons a s ih =>
    cases k with
    | nil => rfl
    | cons c r =>
      simp only [List.cons_append, bytesLess, ih]
      by_cases h1 : c < a
      · have h2 : ¬ a < c := by simp only [UInt8.lt_iff_toNat_lt] at *; omega
        have h3 : (a == c) = false := by
          rw [beq_eq_false_iff_ne]; rintro rfl; simp only [UInt8.lt_iff_toNat_lt] at h1; omega
        simp [h1, h2, h3]
      · by_cases h2 : c = a
        · subst h2; simp [h1]
        · have h3 : a < c := by
            have : c.toNat ≠ a.toNat := fun h => h2 (UInt8.toNat_inj.1 h)
            simp only [UInt8.lt_iff_toNat_lt] at *; omega
          have h4 : (c == a) = false := by rw [beq_eq_false_iff_ne]; exact h2
          simp [h1, h3, h4]
end lists

theorem toList_inj {a b : ByteArray} (h : a.toList = b.toList) : a = b := by
  rw [ByteArray.toList_eq, ByteArray.toList_eq] at h
  obtain ⟨⟨x⟩⟩ := a
  obtain ⟨⟨y⟩⟩ := b
  simp at h
  rw [h]

theorem less_irrefl (a : ByteArray) : less a a = false := ls_irrefl _
theorem less_trans {a b c : ByteArray} (h1 : less a b = true) (h2 : less b c = true) : less a c = true := ls_trans _ _ _ h1 h2
theorem less_total {a b : ByteArray} (h1 : less a b = false) (h2 : less b a = false) : a = b := toList_inj (ls_total _ _ h1 h2)
theorem less_asymm {a b : ByteArray} (h1 : less a b = true) : less b a = false := by
  cases h : less b a with
  | false => rfl
  | true => have := less_trans h1 h; rw [less_irrefl] at this; cases this
/-- k < t ≤ key -/
theorem less_of_less_le {k t key : ByteArray} (h1 : less k t = true) (h2 : less key t = false) : less k key = true := by
  cases h : less k key with
  | true => rfl
  | false =>
    cases h3 : less key k with
    | true => have := less_trans h3 h1; rw [h2] at this; cases this
    | false => rw [less_total h h3] at h1; rw [h1] at h2; cases h2
theorem less_nil (a : ByteArray) : less a ⟨#[]⟩ = false := by
  have : (⟨#[]⟩ : ByteArray).toList = [] := by rw [ByteArray.toList_eq]
  unfold less; rw [this]; exact ls_nil _

def succ (k : ByteArray) : ByteArray := k ++ ⟨#[0]⟩
theorem succ_toList (k : ByteArray) : (succ k).toList = k.toList ++ [0] := by
  rw [ByteArray.toList_eq, ByteArray.toList_eq]
  simp [succ]
theorem less_succ (k key : ByteArray) : less k (succ key) = !less key k := by
  unfold less; rw [succ_toList]; exact ls_succ _ _

/-- The greater of the two. -/
def mx (a b : ByteArray) : ByteArray := if less a b then b else a
theorem less_mx (k a b : ByteArray) : less k (mx a b) = (less k a || less k b) := by
  unfold mx
  cases h : less a b with
  | true =>
    simp only [if_true]
    cases hk : less k a with
    | false => simp
    | true => rw [less_trans hk h]; rfl
  | false =>
    simp only [Bool.false_eq_true, if_false]
    cases hk : less k b with
    | false => simp
    | true => rw [less_of_less_le hk h]; rfl
theorem mx_nil (a : ByteArray) : mx a ⟨#[]⟩ = a := by unfold mx; rw [less_nil]; rfl

/-- Two strings are one if the same strings lie below them. -/
theorem eq_of_below {a b : ByteArray} (h : ∀ k, less k a = less k b) : a = b := by
  have h1 := h a
  rw [less_irrefl] at h1
  have h2 := h b
  rw [less_irrefl] at h2
  exact less_total h1.symm h2

/-- A walk: its span's ends, whether it is bounded, its direction. -/
structure Wk where
  f : ByteArray
  t : ByteArray
  b : Bool
  back : Bool

/-- The nearer of a far end (there may be none) and key. -/
def cap (t : ByteArray) (b : Bool) (key : ByteArray) : ByteArray := if (!b || less key t) = true then key else t
theorem less_cap (k t key : ByteArray) (b : Bool) : less k (cap t b key) = ((!b || less k t) && less k key) := by
  unfold cap
  cases b with
  | false => simp
  | true =>
    simp only [Bool.not_true, Bool.false_or]
    cases h : less key t with
    | true =>
      simp only [if_true]
      cases hk : less k key with
      | false => simp
      | true => rw [less_trans hk h]; rfl
    | false =>
      simp only [Bool.false_eq_true, if_false]
      cases hk : less k t with
      | false => rfl
      | true => rw [less_of_less_le hk h]; rfl

def past (x : Wk) (key : ByteArray) : Wk :=
  match x.back with
  | true => ⟨x.f, cap x.t x.b key, true, true⟩
  | false => ⟨mx x.f (succ key), x.t, x.b, false⟩

def holds (f t : ByteArray) (b : Bool) (k : ByteArray) : Bool := !less k f && (!b || less k t)
def beyond (back : Bool) (key k : ByteArray) : Bool := match back with | true => less k key | false => less key k

/-- THE FIRST LAW: past key lies just what was there and lies beyond key. -/
theorem past_holds (x : Wk) (key k : ByteArray) : holds (past x key).f (past x key).t (past x key).b k = (holds x.f x.t x.b k && beyond x.back key k) := by
  obtain ⟨f, t, b, back⟩ := x
  cases back with
  | true =>
    simp only [past, holds, beyond, less_cap, Bool.not_true, Bool.false_or]
    rw [Bool.and_assoc]
  | false =>
    simp only [past, holds, beyond, less_mx, less_succ]
    cases less k f <;> cases less key k <;> cases (!b || less k t) <;> rfl

theorem past_back (x : Wk) (key : ByteArray) : (past x key).back = x.back := by
  obtain ⟨f, t, b, back⟩ := x
  cases back <;> rfl

theorem mx_comm3 (f a b : ByteArray) : mx (mx f a) b = mx (mx f b) a := by
  apply eq_of_below
  intro k
  simp only [less_mx]
  cases less k f <;> cases less k a <;> cases less k b <;> rfl

theorem cap_comm (t a b : ByteArray) (bd : Bool) : cap (cap t bd a) true b = cap (cap t bd b) true a := by
  apply eq_of_below
  intro k
  simp only [less_cap, Bool.not_true, Bool.false_or]
  cases (!bd || less k t) <;> cases less k a <;> cases less k b <;> rfl

/-- THE SECOND LAW, its first half: the order of two keys does not matter. -/
theorem past_comm (x : Wk) (a b : ByteArray) : past (past x a) b = past (past x b) a := by
  obtain ⟨f, t, bd, back⟩ := x
  cases back with
  | true => simp only [past, cap_comm]
  | false => simp only [past]; rw [mx_comm3]

/-- Whichever of two keys lies further along. -/
def further (back : Bool) (a b : ByteArray) : ByteArray :=
  match back with
  | true => if less b a then b else a
  | false => if less a b then b else a

theorem past_further (x : Wk) (a b : ByteArray) : past x (further x.back a b) = past (past x a) b := by
  obtain ⟨f, t, bd, back⟩ := x
  cases back with
  | true =>
    simp only [past, further]
    congr 1
    apply eq_of_below
    intro k
    simp only [less_cap, Bool.not_true, Bool.false_or]
    cases h : less b a with
    | true =>
      simp only [if_true]
      cases hb : less k b with
      | false => simp
      | true => rw [less_trans hb h]; simp
    | false =>
      simp only [Bool.false_eq_true, if_false]
      cases ha : less k a with
      | false => simp
      | true => rw [less_of_less_le ha h]; simp
  | false =>
    simp only [past, further]
    congr 1
    apply eq_of_below
    intro k
    simp only [less_mx, less_succ]
    cases h : less a b with
    | true =>
      simp only [if_true]
      cases ha : less a k with
      | true => simp
      | false =>
        cases hb : less b k with
        | false => simp
        | true => rw [less_trans h hb] at ha; cases ha
    | false =>
      simp only [Bool.false_eq_true, if_false]
      cases ha : less a k with
      | false => simp
      | true =>
        cases hb : less b k with
        | true => simp
        | false =>
          exfalso
          cases hba : less b a with
          | true => rw [less_trans hba ha] at hb; cases hb
          | false => rw [less_total h hba] at ha; rw [ha] at hb; cases hb

end Go.Proofs.Qxb6630620a
