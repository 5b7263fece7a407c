/-
  zzjdAddOK (function 11), zzjdShiftFits (function 12): where they say yes, nothing that PointerAt reads leaves int.
-/
import Derived.Test.Qxb6630533aDoorBytes
import Derived.OpenShut
namespace Go.Proofs.Qxb6630533aDoor
open Go.RowKit

def Yes11 (P : Prop) (w : World) (e : Ending) (w' : World) : Prop := ∃ ok : Bool, e = .returned (.bool ok) ∧ (ok = true → P) ∧ w' = w
def Yes12 (P : Prop) (w : World) (e : Ending) (w' : World) : Prop := ∃ ok : Bool, e = .returned (.bool ok) ∧ (ok = true → P) ∧ Below w.heap.size w w'

theorem wrap_in {z : Int} (h0 : -9223372036854775808 ≤ z) (h1 : z ≤ 9223372036854775807) : wrap64 z = z := by unfold wrap64; omega

set_option maxHeartbeats 1000000 in
theorem addok11 (x d : Int) (w : World) (hx : -9223372036854775808 ≤ x ∧ x ≤ 9223372036854775807) (hd : -9223372036854775808 ≤ d ∧ d ≤ 9223372036854775807) :
    Calls Tryd.prog 11 #[.int .i64 x, .int .i64 d] w fun e w' => Yes11 (wrap64 (x + d) = x + d) w e w' := by
  obtain ⟨hx0, hx1⟩ := hx
  obtain ⟨hd0, hd1⟩ := hd
  obtain ⟨Q, hQ⟩ : ∃ Q : Prop, Q = (wrap64 (x + d) = x + d) := ⟨_, rfl⟩
  rw [← hQ]
  have HQ := hide hQ
  clear hQ
  by_cases h1 : 0 < d
  · by_cases h2 : x ≤ 9223372036854775807 - d
    · go_enter Tryd.func11, Tryd.ntmps11
      go_wp2_with fail
      go_ret
      exact ⟨_, rfl, fun _ => by rw [unhide HQ]; exact wrap_in (by omega) (by omega), rfl⟩
    · go_enter Tryd.func11, Tryd.ntmps11
      go_wp2_with fail
      go_ret
      exact ⟨_, rfl, fun h => (by simp at h), rfl⟩
  · by_cases h3 : d < 0
    · by_cases h2 : -9223372036854775808 - d ≤ x
      · go_enter Tryd.func11, Tryd.ntmps11
        go_wp2_with fail
        go_ret
        exact ⟨_, rfl, fun _ => by rw [unhide HQ]; exact wrap_in (by omega) (by omega), rfl⟩
      · go_enter Tryd.func11, Tryd.ntmps11
        go_wp2_with fail
        go_ret
        exact ⟨_, rfl, fun h => (by simp at h), rfl⟩
    · go_enter Tryd.func11, Tryd.ntmps11
      go_wp2_with fail
      go_ret
      exact ⟨_, rfl, fun _ => by rw [unhide HQ]; exact wrap_in (by omega) (by omega), rfl⟩

theorem mem_of_at {α : Type} {l : List α} {p : α → Prop} {k : Nat} (h : ∀ i x, i < k → l[i]? = some x → p x) (hk : l.length ≤ k) : ∀ x ∈ l, p x := by
  intro x hx
  obtain ⟨i, hi, rfl⟩ := List.mem_iff_getElem.1 hx
  exact h i l[i] (by omega) (by simp)

theorem at_succ {α : Type} {l : List α} {p : α → Prop} {k : Nat} {x : α} (h : ∀ i x, i < k → l[i]? = some x → p x) (hx : l[k]? = some x) (hp : p x) : ∀ i x, i < k + 1 → l[i]? = some x → p x := by
  intro i y hi hy
  by_cases e : i = k
  · subst e; rw [hx] at hy; obtain rfl := Option.some.inj hy; exact hp
  · exact h i y (by omega) hy

/-- The first k of a list have a property. -/
def First {α : Type} (p : α → Prop) (l : List α) (k : Nat) : Prop := ∀ i x, i < k → l[i]? = some x → p x

set_option maxHeartbeats 8000000 in
set_option maxRecDepth 100000 in
theorem fits12 (d : Int) (hd : -9223372036854775808 ≤ d ∧ d ≤ 9223372036854775807) : ∀ (n : Nat) (cs : List Value) (t : Tr n) (w : World), InN w 0 n cs t → weight n t ≤ 1048576 →
    Calls Tryd.prog 12 #[.agg cs.toArray, .int .i64 d] w fun e w' => Yes12 (Fits d n t) w e w' := by
  intro n
  induction n with
  | zero => intro cs t w h; exact h.elim
  | succ n ih =>
    rintro cs t w ⟨ea, el, ec, ma, ml, mc, rfl, ⟨wk, wo, wf⟩, _, hE, hM⟩ hwt
    obtain ⟨kind, off, fin, els, mem⟩ := (t : TrF (Tr n))
    simp only at hE hM wk wo wf
    have hk8 := bounds_u8 wk
    have ho := bounds_i64 wo
    have hf := bounds_i64 wf
    have hel : el ≤ 1048576 := by have := weight_els (n := n) ⟨kind, off, fin, els, mem⟩; have := hE.1; simp only at *; omega
    have hml : ml ≤ 1048576 := by have := weight_mem (n := n) ⟨kind, off, fin, els, mem⟩; have := hM.1; simp only at *; omega
    have HE := hide hE
    have HM := hide hM
    have IH := hide ih
    have HWT := hide hwt
    have HHD := hide hd
    obtain ⟨Q, hQ⟩ : ∃ Q : Prop, Q = Fits d (n + 1) (⟨kind, off, fin, els, mem⟩ : TrF (Tr n)) := ⟨_, rfl⟩
    rw [← hQ]
    have HQ : Hid (Q = (wrap64 (off + d) = off + d ∧ wrap64 (fin + d) = fin + d ∧ (kind = 4 → ∀ e ∈ els, Fits d n e) ∧ (kind = 5 → ∀ m ∈ mem, wrap64 (m.off + d) = m.off + d ∧ Fits d n m.val))) := hide hQ
    clear hE hM ih hwt hQ wk wo wf hd
    obtain ⟨W0, hW0⟩ : ∃ W0, W0 = w.alloc (.cells #[.int .u8 kind, .int .i64 off, .int .i64 fin, .slice ea el ec, .slice ma ml mc] 25) := ⟨_, rfl⟩
    go_enter Tryd.func12, Tryd.ntmps12
    go_wp2_with fail
    rw [← hW0]
    have HS0 : Hid (W0.heap.size = w.heap.size + 1) := hide (by rw [hW0]; simp)
    have HB0 : Hid (Cells W0 w.heap.size 0 [.int .u8 kind, .int .i64 off, .int .i64 fin, .slice ea el ec, .slice ma ml mc]) := hide (cells_of_block (by rw [hW0]; exact heap_alloc_new _ _))
    have HBW0 : Hid (Below w.heap.size w W0) := hide (by rw [hW0]; exact (Below.refl _ _).alloc (Nat.le_refl _) _)
    clear hW0
    obtain ⟨b0, b1, b2, b3, b4⟩ := cell5 (unhide HB0)
    simp only [Nat.zero_add] at b0 b1 b2 b3 b4
    refine (addok11 off d _ ho (unhide HHD)).mono ?_
    intro e1 w1 h1
    obtain ⟨ok1, rfl, p1, hw⟩ := h1
    obtain rfl := hw.symm
    clear hw
    cases ok1
    · go_wp2_with fail
      go_ret
      exact ⟨_, rfl, fun h => (by cases h), unhide HBW0⟩
    have HP1 := hide (p1 rfl)
    clear p1
    go_wp2_with fail
    refine (addok11 fin d _ hf (unhide HHD)).mono ?_
    intro e1 w1 h1
    obtain ⟨ok1, rfl, p1, hw⟩ := h1
    obtain rfl := hw.symm
    clear hw
    cases ok1
    · go_wp2_with fail
      go_ret
      exact ⟨_, rfl, fun h => (by cases h), unhide HBW0⟩
    have HP2 := hide (p1 rfl)
    clear p1
    by_cases hk4 : kind = 4
    · have HK4 := hide hk4
      have hk4' : (kind == 4) = true := by simp [hk4]
      have hk5' : (kind == 5) = false := by simp [hk4]
      clear hk4
      go_wp2_with fail
      clear b0 b1 b2 b3 b4
      go_loopw [6] (fun i wr => ∃ k : Nat, k ≤ el ∧ i = .int .i64 k ∧ First (Fits d n) els k ∧ Below W0.heap.size W0 wr) (fun i _ => el - (intOf i).toNat)
      case atStart => exact ⟨0, Nat.zero_le _, rfl, fun i x hi => absurd hi (by omega), Below.refl _ _⟩
      case round =>
        obtain ⟨k, hk, rfl, hfi, hbw⟩ := hrel
        have HFI := hide hfi
        have hz : w.heap.size < wr.heap.size := by have := hbw.size; rw [unhide HS0] at this; omega
        have hbw' : Below w.heap.size w wr := (unhide HBW0).trans (hbw.mono (unhide HBW0).size)
        obtain ⟨b0, b1, b2, b3, b4⟩ := cell5 ((unhide HB0).keep (From.of_below (B := 0) hbw) (Nat.zero_le _) (by rw [unhide HS0]; omega))
        simp only [Nat.zero_add] at b0 b1 b2 b3 b4
        clear hfi
        by_cases hlt : k < el
        · obtain ⟨hl, h | ⟨g, o, rfl, _, hg, hc⟩⟩ := unhide HE
          · exact absurd h (by omega)
          obtain ⟨e, he⟩ : ∃ e, els[k]? = some e := ⟨els[k]'(by omega), by simp⟩
          obtain ⟨cs, hcl, hcc, hin⟩ := hc k e he
          have hccr := hcc.keep (From.of_below (B := 0) hbw') (Nat.zero_le _) hg
          have hinr := InN.keep (From.of_below hbw') n cs e hin
          have HIN := hide hinr
          have HEL := hide he
          have HWE : Hid (weight n e ≤ 1048576) := hide (by have h1 := weight_el (n := n) ⟨kind, off, fin, els, mem⟩ e (List.mem_of_getElem? he); have h2 := unhide HWT; omega)
          clear hc hcc hin hinr he hl
          match cs, hcl with
          | [x0, x1, x2, x3, x4], _ =>
            obtain ⟨c0, c1, c2, c3, c4⟩ := cell5 hccr
            clear hccr
            go_wp2_with fail
            refine (unhide IH [x0, x1, x2, x3, x4] e _ (unhide HIN) (unhide HWE)).mono ?_
            intro e1 w1 h1
            obtain ⟨ok1, rfl, q1, hb1⟩ := h1
            have hb01 : Below W0.heap.size W0 w1 := hbw.trans (hb1.mono hbw.size)
            have hbw1 : Below w.heap.size w w1 := hbw'.trans (hb1.mono hbw'.size)
            clear c0 c1 c2 c3 c4 b0 b1 b2 b3 b4
            cases ok1
            · go_wp2_with fail
              go_ret
              exact ⟨_, rfl, fun h => (by cases h), hbw1⟩
            · have HFN := hide (at_succ (unhide HFI) (unhide HEL) (q1 rfl))
              clear q1
              go_wp2_with fail
              go_roundw
              case rel => exact ⟨k + 1, by omega, by go_num, unhide HFN, hb01⟩
              case measure => simp [intOf]; omega
        · have HF : Hid Q := hide (by rw [unhide HQ]; exact ⟨unhide HP1, unhide HP2, fun _ => mem_of_at (unhide HFI) (by have := (unhide HE).1; omega), fun h => absurd h (by rw [unhide HK4]; omega)⟩)
          clear HK4
          go_wp2_with fail
          go_ret
          exact ⟨_, rfl, fun _ => unhide HF, hbw'⟩
    · by_cases hk5 : kind = 5
      · have HK5 := hide hk5
        have hk4' : (kind == 4) = false := by simp [hk5]
        have hk5' : (kind == 5) = true := by simp [hk5]
        clear hk4 hk5
        go_wp2_with fail
        clear b0 b1 b2 b3 b4
        go_loopw [7] (fun i wr => ∃ k : Nat, k ≤ ml ∧ i = .int .i64 k ∧ First (fun m => wrap64 (m.off + d) = m.off + d ∧ Fits d n m.val) mem k ∧ Below W0.heap.size W0 wr) (fun i _ => ml - (intOf i).toNat)
        case atStart => exact ⟨0, Nat.zero_le _, rfl, fun i x hi => absurd hi (by omega), Below.refl _ _⟩
        case round =>
          obtain ⟨k, hk, rfl, hfi, hbw⟩ := hrel
          have HFI := hide hfi
          have hz : w.heap.size < wr.heap.size := by have := hbw.size; rw [unhide HS0] at this; omega
          have hbw' : Below w.heap.size w wr := (unhide HBW0).trans (hbw.mono (unhide HBW0).size)
          obtain ⟨b0, b1, b2, b3, b4⟩ := cell5 ((unhide HB0).keep (From.of_below (B := 0) hbw) (Nat.zero_le _) (by rw [unhide HS0]; omega))
          simp only [Nat.zero_add] at b0 b1 b2 b3 b4
          clear hfi
          by_cases hlt : k < ml
          · obtain ⟨hl, h | ⟨g, o, rfl, _, hg, hc⟩⟩ := unhide HM
            · exact absurd h (by omega)
            obtain ⟨m, hm⟩ : ∃ m, mem[k]? = some m := ⟨mem[k]'(by omega), by simp⟩
            obtain ⟨cs, hcl, hcc, rr, hcs, hmo, hin⟩ := hc k m hm
            have hccr := hcc.keep (From.of_below (B := 0) hbw') (Nat.zero_le _) hg
            have hinr := InN.keep (From.of_below hbw') n rr m.val hin
            have HIN := hide hinr
            have HME := hide hm
            have HWE : Hid (weight n m.val ≤ 1048576) := hide (by have h1 := weight_me (n := n) ⟨kind, off, fin, els, mem⟩ m (List.mem_of_getElem? hm); have h2 := unhide HWT; omega)
            subst hcs
            clear hc hcc hin hinr hm hl
            obtain ⟨mname, moff, mval⟩ := m
            have hmo' := bounds_i64 hmo
            have hcl5 : rr.length = 5 := by simpa using hcl
            clear hcl hmo
            match rr, hcl5 with
            | [x0, x1, x2, x3, x4], _ =>
              obtain ⟨c0, c1, d0, d1, d2, d3, d4⟩ := cell7 hccr
              clear hccr
              go_wp2_with fail
              refine (addok11 moff d _ hmo' (unhide HHD)).mono ?_
              intro e1 w1 h1
              obtain ⟨ok1, rfl, p1, hw⟩ := h1
              obtain rfl := hw.symm
              clear hw
              cases ok1
              · go_wp2_with fail
                go_ret
                exact ⟨_, rfl, fun h => (by cases h), hbw'⟩
              have HP3 := hide (p1 rfl)
              clear p1
              go_wp2_with fail
              refine (unhide IH [x0, x1, x2, x3, x4] mval _ (unhide HIN) (unhide HWE)).mono ?_
              intro e1 w1 h1
              obtain ⟨ok1, rfl, q1, hb1⟩ := h1
              have hb01 : Below W0.heap.size W0 w1 := hbw.trans (hb1.mono hbw.size)
              have hbw1 : Below w.heap.size w w1 := hbw'.trans (hb1.mono hbw'.size)
              clear c0 c1 d0 d1 d2 d3 d4 b0 b1 b2 b3 b4
              cases ok1
              · go_wp2_with fail
                go_ret
                exact ⟨_, rfl, fun h => (by cases h), hbw1⟩
              · have HFN := hide (at_succ (unhide HFI) (unhide HME) ⟨unhide HP3, q1 rfl⟩)
                clear q1
                go_wp2_with fail
                go_roundw
                case rel => exact ⟨k + 1, by omega, by go_num, unhide HFN, hb01⟩
                case measure => simp [intOf]; omega
          · have HF : Hid Q := hide (by rw [unhide HQ]; exact ⟨unhide HP1, unhide HP2, fun h => absurd h (by rw [unhide HK5]; omega), fun _ => mem_of_at (unhide HFI) (by have := (unhide HM).1; omega)⟩)
            clear HK5
            go_wp2_with fail
            go_ret
            exact ⟨_, rfl, fun _ => unhide HF, hbw'⟩
      · have hk4' : (kind == 4) = false := by simpa using hk4
        have hk5' : (kind == 5) = false := by simpa using hk5
        have HF : Hid Q := hide (by rw [unhide HQ]; exact ⟨unhide HP1, unhide HP2, fun h => absurd h hk4, fun h => absurd h hk5⟩)
        clear hk4 hk5
        go_wp2_with fail
        go_ret
        exact ⟨_, rfl, fun _ => unhide HF, unhide HBW0⟩

end Go.Proofs.Qxb6630533aDoor
