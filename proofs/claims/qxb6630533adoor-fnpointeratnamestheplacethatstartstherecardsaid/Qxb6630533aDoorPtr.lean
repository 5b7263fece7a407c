/-
  jsondoc.appendPointerToken and jsondoc.Pointer (functions 24, 20): the text of a pointer.
-/
import Derived.Test.Qxb6630533aDoorSearch
import Derived.Lib.BufSteps
import Derived.Lib.BufferRead
import Derived.Laws.BytesArg
namespace Go.Proofs.Qxb6630533aDoor
open Go.RowKit Go.Lib

/-- One byte of a token, escaped. -/
def esc (b : UInt8) : List UInt8 := if b = 126 then [126, 48] else if b = 47 then [126, 49] else [b]
def tokText (t : ByteArray) : List UInt8 := t.data.toList.flatMap esc
/-- The pointer of the tokens. -/
def ptText (T : List ByteArray) : List UInt8 := T.flatMap fun t => 47 :: tokText t

theorem esc_len (b : UInt8) : (esc b).length ≤ 2 := by
  unfold esc
  split
  · simp
  · split <;> simp
theorem flatMap_esc_len (l : List UInt8) : (l.flatMap esc).length ≤ 2 * l.length := by
  induction l with
  | nil => simp
  | cons b r ih => have := esc_len b; simp only [List.flatMap_cons, List.length_append, List.length_cons]; omega

theorem info5 : (Tryd.prog.info? 5).map (fun i => (i.zero, i.size, i.bytes)) = some (some (.int .u8 0), 1, 1) := by kernel_rfl

theorem take_esc (l : List UInt8) (k : Nat) (b : UInt8) (h : l[k]? = some b) : (l.take (k + 1)).flatMap esc = (l.take k).flatMap esc ++ esc b := by
  have hk := (List.getElem?_eq_some_iff.1 h).1
  rw [List.take_succ_eq_append_getElem hk, List.flatMap_append, (List.getElem?_eq_some_iff.1 h).2]
  simp

theorem own_more {B : Nat} {v : Value} {bs ds c : List UInt8} {W0 w : World} (h : OwnBuf B 5 v ((bs ++ ds).length + c.length) (byteCells (bs ++ ds) ++ byteCells c) W0 w) :
    OwnBuf B 5 v (bs ++ (ds ++ c)).length (byteCells (bs ++ (ds ++ c))) W0 w := by
  have e : byteCells (bs ++ ds) ++ byteCells c = byteCells (bs ++ (ds ++ c)) := by simp [byteCells]
  have e2 : (bs ++ ds).length + c.length = (bs ++ (ds ++ c)).length := by simp; omega
  rw [e, e2] at h
  exact h

set_option maxHeartbeats 4000000 in
set_option maxRecDepth 100000 in
theorem tok24 (B : Nat) (v : Value) (bs : List UInt8) (t : ByteArray) (W0 w : World) (hb : OwnBuf B 5 v bs.length (byteCells bs) W0 w) (hlen : bs.length + 2 * t.size ≤ 140737488355328) :
    Calls Tryd.prog 24 #[v, .string t] w fun e w' => ∃ v', e = .returned v' ∧ OwnBuf B 5 v' (bs ++ tokText t).length (byteCells (bs ++ tokText t)) W0 w' := by
  obtain ⟨i5, hi5, hz0, hz1, hz2⟩ := info_parts info5
  have HB := hide hb
  clear hb
  go_enter Tryd.func24, Tryd.ntmps24
  go_wp2_with fail
  go_loopw [0, 5] (fun s0 s5 wr => ∃ k : Nat, k ≤ t.size ∧ s5 = .int .i64 k ∧ OwnBuf B 5 s0 (bs ++ (t.data.toList.take k).flatMap esc).length (byteCells (bs ++ (t.data.toList.take k).flatMap esc)) W0 wr) (fun _ i _ => t.size - (intOf i).toNat)
  case atStart => exact ⟨0, Nat.zero_le _, rfl, by simpa using unhide HB⟩
  case round =>
    obtain ⟨k, hk, rfl, ho⟩ := hrel
    have HO := hide ho
    clear ho
    by_cases hlt : k < t.size
    · have i0 : (0 : Int) ≤ (k : Int) := by omega
      have i1 : (k : Int) < (t.size : Int) := by omega
      have hx : t.data.toList[k]? = some t[k] := by
        rw [Array.getElem?_toList]
        exact Array.getElem?_eq_getElem hlt
      have HX := hide (take_esc t.data.toList k t[k] hx)
      have HL : Hid ((bs ++ (t.data.toList.take k).flatMap esc).length + 2 ≤ 140737488355328) := hide (by
        have h1 := flatMap_esc_len (t.data.toList.take k)
        have h2 : (t.data.toList.take k).length ≤ k := by simp; omega
        rw [List.length_append]; omega)
      clear hx
      by_cases h126 : t[k] = 126
      · have n1 : ((t[k].toNat : Nat) : Int) = 126 := by rw [h126]; rfl
        go_wp2_with (at_builtin; refine wpList_append_text rfl (.tmp 23) _ 58 9 rfl B 5 i5 Tryd.underlying58 Tryd.underlying9 hi5 hz0 hz1 hz2 _ _ _ rfl W0 (unhide HO) ⟨#[126, 48]⟩ rfl (unhide HL) ?_; intro v1 w1 hb1)
        go_roundw
        case rel =>
          refine ⟨k + 1, by omega, by go_num, ?_⟩
          rw [unhide HX, h126]
          exact own_more hb1
        case measure => simp [intOf]; omega
      · have n1 : ¬ ((t[k].toNat : Nat) : Int) = 126 := fun h => h126 (UInt8.toNat_inj.1 (by simpa using Int.ofNat.inj (h : Int.ofNat _ = Int.ofNat 126)))
        by_cases h47 : t[k] = 47
        · have n2 : ((t[k].toNat : Nat) : Int) = 47 := by rw [h47]; rfl
          go_wp2_with (at_builtin; refine wpList_append_text rfl (.tmp 27) _ 58 9 rfl B 5 i5 Tryd.underlying58 Tryd.underlying9 hi5 hz0 hz1 hz2 _ _ _ rfl W0 (unhide HO) ⟨#[126, 49]⟩ rfl (unhide HL) ?_; intro v1 w1 hb1)
          go_roundw
          case rel =>
            refine ⟨k + 1, by omega, by go_num, ?_⟩
            rw [unhide HX, h47]
            exact own_more hb1
          case measure => simp [intOf]; omega
        · have n2 : ¬ ((t[k].toNat : Nat) : Int) = 47 := fun h => h47 (UInt8.toNat_inj.1 (by simpa using Int.ofNat.inj (h : Int.ofNat _ = Int.ofNat 47)))
          go_wp2_with (at_builtin; refine wpList_append_byte rfl (.tmp 15) (.tmp 19) 58 rfl B 5 i5 Tryd.underlying58 hi5 hz0 hz1 hz2 _ _ _ rfl W0 wr _ (unhide HO) rfl (Nat.le_trans (Nat.le_succ _) (unhide HL)) ?_; intro v1 w1 hb1)
          go_roundw
          case rel =>
            refine ⟨k + 1, by omega, by go_num, ?_⟩
            rw [unhide HX, esc, if_neg h126, if_neg h47]
            exact own_more (c := [t[k]]) hb1
          case measure => simp [intOf]; omega
    · obtain rfl : t.size = k := by omega
      go_wp2_with fail
      go_ret
      refine ⟨_, rfl, ?_⟩
      have h := unhide HO
      rw [List.take_of_length_le (by rw [Array.length_toList]; exact Nat.le_refl _)] at h
      exact h

/-- What the pointer of the tokens takes at most. -/
def ptBound (T : List ByteArray) : Nat := (T.map fun t => 1 + 2 * t.size).sum

theorem ptText_le (T : List ByteArray) : (ptText T).length ≤ ptBound T := by
  induction T with
  | nil => simp [ptText, ptBound]
  | cons t r ih =>
    have h := flatMap_esc_len t.data.toList
    have e : t.data.toList.length = t.size := Array.length_toList
    show ((47 :: tokText t) ++ ptText r).length ≤ (1 + 2 * t.size) + ptBound r
    rw [List.length_append, List.length_cons]
    unfold tokText
    omega

theorem ptText_take {T : List ByteArray} {k : Nat} {t : ByteArray} (h : T[k]? = some t) : ptText (T.take (k + 1)) = (ptText (T.take k) ++ [47]) ++ tokText t := by
  have hk := (List.getElem?_eq_some_iff.1 h).1
  unfold ptText
  rw [List.take_succ_eq_append_getElem hk, List.flatMap_append, (List.getElem?_eq_some_iff.1 h).2]
  simp

theorem ptBound_take {T : List ByteArray} {k : Nat} {t : ByteArray} (h : T[k]? = some t) : (ptText (T.take k)).length + 1 + 2 * t.size ≤ ptBound T := by
  have hk := (List.getElem?_eq_some_iff.1 h).1
  have h1 := ptText_le (T.take k)
  have e : ptBound T = ptBound (T.take k) + ptBound (T.drop k) := by
    unfold ptBound
    rw [← List.sum_append, ← List.map_append, List.take_append_drop]
  have e2 : ptBound (T.drop k) = 1 + 2 * t.size + ptBound (T.drop (k + 1)) := by
    unfold ptBound
    rw [List.drop_eq_getElem_cons hk, List.map_cons, List.sum_cons, (List.getElem?_eq_some_iff.1 h).2]
  omega

/-- string(b) of an owned buffer. -/
theorem conv_own {B : Nat} {v : Value} {bs : List UInt8} {W0 w : World} (h : OwnBuf B 5 v bs.length (byteCells bs) W0 w) : (convert 58 9 v).run Tryd.prog w = .ok (.string ⟨bs.toArray⟩) w := by
  rcases h.1.2 with ⟨rfl, h0⟩ | ⟨g, cap, cur, fz, rfl, _, hg, _, _, _, _, ht⟩
  · have e : bs = [] := List.length_eq_zero_iff.1 h0
    subst e
    exact run_convert_nil_bytes w 58 9 5 0 Tryd.underlying58 Tryd.underlying5 Tryd.underlying9
  · exact run_convert_bytes_back w 58 9 5 ⟨g, 0, none⟩ cap bs Tryd.underlying58 Tryd.underlying5 Tryd.underlying9 (bytes_of_row hg (by rw [Nat.mul_one] at ht; exact ht))

/-- A row of strings. -/
def StrRow (w : World) (a : Option Addr) (T : List ByteArray) : Prop :=
  T = [] ∨ ∃ g o, a = some ⟨g, o, none⟩ ∧ g < w.heap.size ∧ ∀ i s, T[i]? = some s → w.cell? ⟨g, o + i, none⟩ = some (.string s)

set_option maxHeartbeats 4000000 in
set_option maxRecDepth 100000 in
theorem pointer20 (a : Option Addr) (cap : Nat) (T : List ByteArray) (w : World) (hT : StrRow w a T) (hB : ptBound T ≤ 140737488355328) :
    Calls Tryd.prog 20 #[.slice a T.length cap] w fun e w' => e = .returned (.string ⟨(ptText T).toArray⟩) ∧ Below w.heap.size w w' := by
  obtain ⟨i5, hi5, hz0, hz1, hz2⟩ := info_parts info5
  have HT := hide hT
  have HBd := hide hB
  clear hT hB
  have htl : T.length ≤ 140737488355328 := by
    have : T.length ≤ ptBound T := by
      unfold ptBound
      have := sum_ge_len (fun t : ByteArray => 1 + 2 * t.size) 1 T (fun x => by omega)
      omega
    have := unhide HBd
    omega
  go_enter Tryd.func20, Tryd.ntmps20
  go_wp2_with fail
  go_loopw [3, 8] (fun s3 s8 wr => ∃ k : Nat, k ≤ T.length ∧ s8 = .int .i64 k ∧ OwnBuf w.heap.size 5 s3 (ptText (T.take k)).length (byteCells (ptText (T.take k))) w wr) (fun _ i _ => T.length - (intOf i).toNat)
  case atStart => exact ⟨0, Nat.zero_le _, rfl, World.ownsRowF_nil _ _ _ _, Below.refl _ _, Nat.le_refl _⟩
  case round =>
    obtain ⟨k, hk, rfl, ho⟩ := hrel
    have HO := hide ho
    have hbw := ho.2.1
    clear ho
    by_cases hlt : k < T.length
    · obtain h | ⟨g, o, rfl, hgz, hc⟩ := unhide HT
      · rw [h] at hlt; exact absurd hlt (by simp)
      obtain ⟨t, ht⟩ : ∃ t, T[k]? = some t := ⟨T[k], by simp⟩
      have c0 := (hbw.cell (p := ⟨g, o + k, none⟩) hgz).trans (hc k t ht)
      have HTK := hide ht
      clear hc ht
      go_wp2_with (first | (at_builtin; refine wpList_append_byte rfl (.tmp 12) (.tmp 13) 58 rfl w.heap.size 5 i5 Tryd.underlying58 hi5 hz0 hz1 hz2 _ _ _ rfl w wr _ (unhide HO) rfl (by have h1 := ptBound_take (unhide HTK); have h2 := unhide HBd; omega) ?_; intro v1 w1 hb1) | (go_at_call 24; refine (tok24 w.heap.size _ (ptText (T.take k) ++ [47]) t w _ (own_more (ds := []) (c := [47]) (by rw [List.append_nil]; exact hb1)) (by have h1 := ptBound_take (unhide HTK); have h2 := unhide HBd; simp only [List.length_append, List.length_cons, List.length_nil]; omega)).mono ?_; rintro _ w2 ⟨v2, rfl, hb2⟩))
      go_roundw
      case rel =>
        refine ⟨k + 1, by omega, by go_num, ?_⟩
        rw [ptText_take (unhide HTK)]
        exact hb2
      case measure => simp [intOf]; omega
    · obtain rfl : T.length = k := by omega
      have hcv := conv_own (unhide HO)
      go_wp2_with fail
      go_ret
      exact ⟨rfl, hbw⟩

end Go.Proofs.Qxb6630533aDoor
