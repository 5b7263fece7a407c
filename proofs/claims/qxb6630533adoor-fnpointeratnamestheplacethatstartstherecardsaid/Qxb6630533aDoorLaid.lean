/-
  zzjdLaidOut (function 6): where it answers true, the tree is laid out.
-/
import Derived.Test.Qxb6630533aDoorPath
import Derived.Test.Qxb6630533aDoorFits
import Derived.Deep.QuietTactic
import Derived.BigQuiet
namespace Go.Proofs.Qxb6630533aDoor
open Go.RowKit

theorem in_form {w : World} {B n : Nat} {cs : List Value} {e : Tr n} (h : InN w B n cs e) : ∃ k ea el ec ma ml mc, cs = [.int .u8 k, .int .i64 (offOf n e), .int .i64 (finOf n e), .slice ea el ec, .slice ma ml mc] := by
  cases n with
  | zero => exact h.elim
  | succ n =>
    obtain ⟨ea, el, ec, ma, ml, mc, rfl, _⟩ := h
    exact ⟨_, ea, el, ec, ma, ml, mc, rfl⟩

/-- The first k elements are as they should be. -/
def FirstE {n : Nat} (off fin : Int) (els : List (Tr n)) (k : Nat) : Prop :=
  ∀ i e, i < k → els[i]? = some e → off < offOf n e ∧ finOf n e ≤ fin ∧ (∀ j e', i = j + 1 → els[j]? = some e' → finOf n e' ≤ offOf n e) ∧ Laid n e

theorem FirstE.succ {n : Nat} {off fin : Int} {els : List (Tr n)} {k : Nat} {e : Tr n} (h : FirstE off fin els k) (he : els[k]? = some e)
    (h1 : off < offOf n e) (h2 : finOf n e ≤ fin) (h3 : ∀ j e', k = j + 1 → els[j]? = some e' → finOf n e' ≤ offOf n e) (h4 : Laid n e) : FirstE off fin els (k + 1) := fun i u hi hu => by
  by_cases hik : i = k
  · subst hik
    rw [he] at hu
    obtain rfl := Option.some.inj hu
    exact ⟨h1, h2, h3, h4⟩
  · exact h i u (by omega) hu

/-- The first k members are as they should be. -/
def FirstM {n : Nat} (off fin : Int) (mem : List (MemF (Tr n))) (k : Nat) : Prop :=
  ∀ i m, i < k → mem[i]? = some m → off < m.off ∧ m.off < offOf n m.val ∧ finOf n m.val ≤ fin ∧ (∀ j m', i = j + 1 → mem[j]? = some m' → finOf n m'.val ≤ m.off) ∧ Laid n m.val

theorem FirstM.succ {n : Nat} {off fin : Int} {mem : List (MemF (Tr n))} {k : Nat} {m : MemF (Tr n)} (h : FirstM off fin mem k) (he : mem[k]? = some m)
    (h0 : off < m.off) (h1 : m.off < offOf n m.val) (h2 : finOf n m.val ≤ fin) (h3 : ∀ j m', k = j + 1 → mem[j]? = some m' → finOf n m'.val ≤ m.off) (h4 : Laid n m.val) : FirstM off fin mem (k + 1) := fun i u hi hu => by
  by_cases hik : i = k
  · subst hik
    rw [he] at hu
    obtain rfl := Option.some.inj hu
    exact ⟨h0, h1, h2, h3, h4⟩
  · exact h i u (by omega) hu

theorem wrap_j (j : Nat) (h : j ≤ 1048576) : IntKind.i64.wrap (j : Int) = (j : Int) := by
  rw [IntKind.wrap_i64]
  omega

theorem below_alloc_drewN (w : World) (o : Obj) (q : Nat) : Below w.heap.size w ((w.alloc o).drewN q) := by
  have h := (Below.refl w.heap.size w).alloc (Nat.le_refl _) o
  exact ⟨h.os, h.tape, h.output, h.size, h.block⟩

set_option maxHeartbeats 8000000 in
set_option maxRecDepth 100000 in
theorem laid6 : ∀ (n : Nat) (cs : List Value) (t : Tr n) (w : World), InN w 0 n cs t → weight n t ≤ 1048576 →
    Calls Tryd.prog 6 #[.agg cs.toArray] w fun e w' => Yes12 (Laid n t) w e w' := by
  intro n
  induction n with
  | zero => intro cs t w h; exact h.elim
  | succ n ih =>
    rintro cs t w ⟨ea, el, ec, ma, ml, mc, rfl, _, _, hE, hM⟩ hwt
    obtain ⟨kind, off, fin, els, mem⟩ := (t : TrF (Tr n))
    simp only at hE hM
    have hel : el ≤ 1048576 := by have := weight_els (n := n) ⟨kind, off, fin, els, mem⟩; have := hE.1; simp only at *; omega
    have hml : ml ≤ 1048576 := by have := weight_mem (n := n) ⟨kind, off, fin, els, mem⟩; have := hM.1; simp only at *; omega
    have HE := hide hE
    have HM := hide hM
    have IH := hide ih
    have HWT := hide hwt
    obtain ⟨Q, hQ⟩ : ∃ Q : Prop, Q = Laid (n + 1) (⟨kind, off, fin, els, mem⟩ : TrF (Tr n)) := ⟨_, rfl⟩
    rw [← hQ]
    have HQ : Hid (off < fin → (kind = 4 → FirstE off fin els el) → (kind = 5 → FirstM off fin mem ml) → Q) := hide (fun h1 h2 h3 => by
      rw [hQ]
      exact ⟨h1, fun hk i e he => h2 hk i e (by have h1 : i < els.length := (List.getElem?_eq_some_iff.1 he).1; have h2 : els.length = el := hE.1; omega) he, fun hk i e he => h3 hk i e (by have h1 : i < mem.length := (List.getElem?_eq_some_iff.1 he).1; have h2 : mem.length = ml := hM.1; omega) he⟩)
    clear hE hM ih hwt hQ
    obtain ⟨W0, hW0⟩ : ∃ W0, W0 = w.alloc (.cells #[.int .u8 kind, .int .i64 off, .int .i64 fin, .slice ea el ec, .slice ma ml mc] 25) := ⟨_, rfl⟩
    go_enter Tryd.func6, Tryd.ntmps6
    by_cases hof : fin ≤ off
    · go_wp2_with fail
      go_ret
      exact ⟨_, rfl, fun h => (by cases h), (Below.refl _ _).alloc (Nat.le_refl _) _⟩
    have HOF : Hid (off < fin) := hide (by omega)
    by_cases hk4 : kind = 4
    · have HK5 : Hid (¬ kind = 5) := hide (by omega)
      subst hk4
      go_wp2_with fail
      rw [← hW0]
      have HS0 : Hid (W0.heap.size = w.heap.size + 1) := hide (by rw [hW0]; simp)
      have HB0 : Hid (Cells W0 w.heap.size 0 [.int .u8 4, .int .i64 off, .int .i64 fin, .slice ea el ec, .slice ma ml mc]) := hide (cells_of_block (by rw [hW0]; exact heap_alloc_new _ _))
      have HBW0 : Hid (Below w.heap.size w W0) := hide (by rw [hW0]; exact (Below.refl _ _).alloc (Nat.le_refl _) _)
      clear hW0
      go_loopw [4] (fun i wr => ∃ k : Nat, k ≤ el ∧ i = .int .i64 k ∧ FirstE off fin els k ∧ Below W0.heap.size W0 wr) (fun i _ => el - (intOf i).toNat)
      case atStart => exact ⟨0, Nat.zero_le _, rfl, fun i x hi => absurd hi (by omega), Below.refl _ _⟩
      case round =>
        obtain ⟨k, hk, rfl, hfi, hbw⟩ := hrel
        have HFI := hide hfi
        have hz : w.heap.size < wr.heap.size := by have := hbw.size; rw [unhide HS0] at this; omega
        have hbw' : Below w.heap.size w wr := (unhide HBW0).trans (hbw.mono (unhide HBW0).size)
        obtain ⟨b0, b1, b2, b3, b4⟩ := cell5 ((unhide HB0).keep (From.of_below (B := 0) hbw) (Nat.zero_le _) (by rw [unhide HS0]; omega))
        simp only [Nat.zero_add] at b0 b1 b2 b3 b4
        clear hfi
        by_cases hlt : k < el
        · obtain ⟨hl, h | ⟨g, o, rfl, _, hg, hc⟩⟩ := unhide HE
          · exact absurd h (by omega)
          obtain ⟨e, he⟩ : ∃ e, els[k]? = some e := ⟨els[k]'(by omega), by simp⟩
          obtain ⟨cs, hcl, hcc, hin⟩ := hc k e he
          have hccr := hcc.keep (From.of_below (B := 0) hbw') (Nat.zero_le _) hg
          have HIN := hide (InN.keep (From.of_below (B := 0) hbw') n cs e hin)
          have HEL := hide he
          have HWE : Hid (weight n e ≤ 1048576) := hide (by have h1 := weight_el (n := n) ⟨4, off, fin, els, mem⟩ e (List.mem_of_getElem? he); have h2 := unhide HWT; omega)
          obtain ⟨ek, xa, xl, xc, ya, yl, yc, rfl⟩ := in_form hin
          have hprev : ∀ j, k = j + 1 → ∃ e', els[j]? = some e' ∧ wr.cell? ⟨g, o + j * 5 + 2, none⟩ = some (.int .i64 (finOf n e')) := by
            intro j hj
            obtain ⟨e', he'⟩ : ∃ e', els[j]? = some e' := ⟨els[j]'(by omega), by simp⟩
            obtain ⟨cs', hcl', hcc', hin'⟩ := hc j e' he'
            obtain ⟨_, _, _, _, _, _, _, rfl⟩ := in_form hin'
            refine ⟨e', he', ?_⟩
            have := (hcc'.keep (From.of_below (B := 0) hbw') (Nat.zero_le _) hg) 2 (by simp)
            simpa using this
          clear hc hcc hin he hl
          obtain ⟨c0, c1, c2, c3, c4⟩ := cell5 hccr
          clear hccr hcl
          obtain ⟨eo, heo⟩ : ∃ eo, offOf n e = eo := ⟨_, rfl⟩
          obtain ⟨ef, hef⟩ : ∃ ef, finOf n e = ef := ⟨_, rfl⟩
          rw [heo] at c1 HIN
          rw [hef] at c2 HIN
          have HEO := hide heo
          have HEF := hide hef
          clear heo hef
          by_cases t1 : eo ≤ off
          · clear hprev
            go_wp2_with fail
            go_ret
            exact ⟨_, rfl, fun h => (by cases h), hbw'.alloc hbw'.size _⟩
          by_cases t2 : fin < ef
          · clear hprev
            go_wp2_with fail
            go_ret
            exact ⟨_, rfl, fun h => (by cases h), hbw'.alloc hbw'.size _⟩
          cases k with
          | zero =>
            clear hprev
            simp only [Nat.zero_mul, Nat.add_zero] at c0 c1 c2 c3 c4
            have hd : decide ((0 : Int) < ((0 : Nat) : Int)) = false := by decide
            go_wp2_with fail
            go_quiet (fail)
            go_wp2_with fail
            have hbA : Below wr.heap.size wr ((wr.alloc (.cells #[.int .u8 ek, .int .i64 eo, .int .i64 ef, .slice xa xl xc, .slice ya yl yc] 25)).drewN nq) := below_alloc_drewN _ _ _
            refine (unhide IH [.int .u8 ek, .int .i64 eo, .int .i64 ef, .slice xa xl xc, .slice ya yl yc] e _ (InN.keep (From.of_below (B := 0) hbA) n _ _ (unhide HIN)) (unhide HWE)).mono ?_
            intro e1 w1 h1
            obtain ⟨ok1, rfl, q1, hb1⟩ := h1
            have hb01 : Below W0.heap.size W0 w1 := (hbw.trans (hbA.mono hbw.size)).trans (hb1.mono (Nat.le_trans hbw.size hbA.size))
            have hbw1 : Below w.heap.size w w1 := (unhide HBW0).trans (hb01.mono (unhide HBW0).size)
            clear c0 c1 c2 c3 c4 hd b0 b1 b2 b3 b4
            cases ok1
            · go_wp2_with fail
              go_ret
              exact ⟨_, rfl, fun h => (by cases h), hbw1⟩
            · have HFN := hide ((unhide HFI).succ (unhide HEL) (by rw [unhide HEO]; omega) (by rw [unhide HEF]; omega) (fun j e' h => absurd h (by omega)) (q1 rfl))
              clear q1
              go_wp2_with fail
              go_roundw
              case rel => exact ⟨0 + 1, by omega, by go_num, unhide HFN, hb01⟩
              case measure => simp [intOf]; omega
          | succ j =>
            obtain ⟨e', he', p2⟩ := hprev j rfl
            have HE' := hide he'
            obtain ⟨pf, hpf⟩ : ∃ pf, finOf n e' = pf := ⟨_, rfl⟩
            rw [hpf] at p2
            have HPF := hide hpf
            clear hprev he' hpf
            have hd : decide ((0 : Int) < ((j + 1 : Nat) : Int)) = true := decide_eq_true (by omega)
            have i0 : (0 : Int) ≤ (j : Int) := by omega
            have i1 : (j : Int) < (el : Int) := by omega
            have hgz : g < wr.heap.size := Nat.lt_of_lt_of_le hg hbw'.size
            have hwj : IntKind.i64.wrap (j : Int) = (j : Int) := wrap_j j (by omega)
            by_cases t3 : eo < pf
            · go_wp2_with fail
              go_quiet (fail)
              go_wp2_with fail
              go_ret
              exact ⟨_, rfl, fun h => (by cases h), hbw'.trans ((below_alloc_drewN _ _ _).mono hbw'.size)⟩
            · go_wp2_with fail
              go_quiet (fail)
              go_wp2_with fail
              have hbA : Below wr.heap.size wr ((wr.alloc (.cells #[.int .u8 ek, .int .i64 eo, .int .i64 ef, .slice xa xl xc, .slice ya yl yc] 25)).drewN nq) := below_alloc_drewN _ _ _
              refine (unhide IH [.int .u8 ek, .int .i64 eo, .int .i64 ef, .slice xa xl xc, .slice ya yl yc] e _ (InN.keep (From.of_below (B := 0) hbA) n _ _ (unhide HIN)) (unhide HWE)).mono ?_
              intro e1 w1 h1
              obtain ⟨ok1, rfl, q1, hb1⟩ := h1
              have hb01 : Below W0.heap.size W0 w1 := (hbw.trans (hbA.mono hbw.size)).trans (hb1.mono (Nat.le_trans hbw.size hbA.size))
              have hbw1 : Below w.heap.size w w1 := (unhide HBW0).trans (hb01.mono (unhide HBW0).size)
              clear c0 c1 c2 c3 c4 hd p2 b0 b1 b2 b3 b4
              cases ok1
              · go_wp2_with fail
                go_ret
                exact ⟨_, rfl, fun h => (by cases h), hbw1⟩
              · have HFN := hide ((unhide HFI).succ (unhide HEL) (by rw [unhide HEO]; omega) (by rw [unhide HEF]; omega) (fun j' e'' h hu => by obtain rfl : j = j' := (by omega); rw [unhide HE'] at hu; obtain rfl := Option.some.inj hu; rw [unhide HPF, unhide HEO]; omega) (q1 rfl))
                clear q1
                go_wp2_with fail
                go_roundw
                case rel => exact ⟨(j + 1) + 1, by omega, by go_num, unhide HFN, hb01⟩
                case measure => simp [intOf]; omega
        · obtain rfl : el = k := by omega
          have HF : Hid Q := hide (unhide HQ (unhide HOF) (fun _ => unhide HFI) (fun h => absurd h (unhide HK5)))
          go_wp2_with fail
          go_ret
          exact ⟨_, rfl, fun _ => unhide HF, hbw'⟩
    · by_cases hk5 : kind = 5
      · have HK4 : Hid (¬ kind = 4) := hide hk4
        clear hk4
        subst hk5
        go_wp2_with fail
        rw [← hW0]
        have HS0 : Hid (W0.heap.size = w.heap.size + 1) := hide (by rw [hW0]; simp)
        have HB0 : Hid (Cells W0 w.heap.size 0 [.int .u8 5, .int .i64 off, .int .i64 fin, .slice ea el ec, .slice ma ml mc]) := hide (cells_of_block (by rw [hW0]; exact heap_alloc_new _ _))
        have HBW0 : Hid (Below w.heap.size w W0) := hide (by rw [hW0]; exact (Below.refl _ _).alloc (Nat.le_refl _) _)
        clear hW0
        go_loopw [6] (fun i wr => ∃ k : Nat, k ≤ ml ∧ i = .int .i64 k ∧ FirstM off fin mem k ∧ Below W0.heap.size W0 wr) (fun i _ => ml - (intOf i).toNat)
        case atStart => exact ⟨0, Nat.zero_le _, rfl, fun i x hi => absurd hi (by omega), Below.refl _ _⟩
        case round =>
          obtain ⟨k, hk, rfl, hfi, hbw⟩ := hrel
          have HFI := hide hfi
          have hz : w.heap.size < wr.heap.size := by have := hbw.size; rw [unhide HS0] at this; omega
          have hbw' : Below w.heap.size w wr := (unhide HBW0).trans (hbw.mono (unhide HBW0).size)
          obtain ⟨b0, b1, b2, b3, b4⟩ := cell5 ((unhide HB0).keep (From.of_below (B := 0) hbw) (Nat.zero_le _) (by rw [unhide HS0]; omega))
          simp only [Nat.zero_add] at b0 b1 b2 b3 b4
          clear hfi
          by_cases hlt : k < ml
          · obtain ⟨hl, h | ⟨g, o, rfl, _, hg, hc⟩⟩ := unhide HM
            · exact absurd h (by omega)
            obtain ⟨m, hm⟩ : ∃ m, mem[k]? = some m := ⟨mem[k]'(by omega), by simp⟩
            obtain ⟨cs, hcl, hcc, rr, hcs, hmo, hin⟩ := hc k m hm
            have hccr := hcc.keep (From.of_below (B := 0) hbw') (Nat.zero_le _) hg
            have HIN := hide (InN.keep (From.of_below (B := 0) hbw') n rr m.val hin)
            have HME := hide hm
            have HWE : Hid (weight n m.val ≤ 1048576) := hide (by have h1 := weight_me (n := n) ⟨5, off, fin, els, mem⟩ m (List.mem_of_getElem? hm); have h2 := unhide HWT; omega)
            obtain ⟨ek, xa, xl, xc, ya, yl, yc, rfl⟩ := in_form hin
            have hprev : ∀ j, k = j + 1 → ∃ m', mem[j]? = some m' ∧ wr.cell? ⟨g, o + j * 7 + 2 + 2, none⟩ = some (.int .i64 (finOf n m'.val)) := by
              intro j hj
              obtain ⟨m', hm'⟩ : ∃ m', mem[j]? = some m' := ⟨mem[j]'(by omega), by simp⟩
              obtain ⟨cs', hcl', hcc', rr', hcs', _, hin'⟩ := hc j m' hm'
              obtain ⟨_, _, _, _, _, _, _, rfl⟩ := in_form hin'
              subst hcs'
              refine ⟨m', hm', ?_⟩
              have := (hcc'.keep (From.of_below (B := 0) hbw') (Nat.zero_le _) hg) 4 (by simp)
              simpa using this
            subst hcs
            obtain ⟨mname, moff, mval⟩ := m
            clear hc hcc hin hm hl hmo
            obtain ⟨c0, c1, d0, d1, d2, d3, d4⟩ := cell7 hccr
            clear hccr hcl
            simp only at HIN HWE d1 d2
            obtain ⟨eo, heo⟩ : ∃ eo, offOf n mval = eo := ⟨_, rfl⟩
            obtain ⟨ef, hef⟩ : ∃ ef, finOf n mval = ef := ⟨_, rfl⟩
            rw [heo] at d1 HIN
            rw [hef] at d2 HIN
            have HEO := hide heo
            have HEF := hide hef
            clear heo hef
            by_cases t0 : moff ≤ off
            · clear hprev
              go_wp2_with fail
              go_ret
              exact ⟨_, rfl, fun h => (by cases h), hbw'.alloc hbw'.size _⟩
            by_cases t1 : eo ≤ moff
            · clear hprev
              go_wp2_with fail
              go_ret
              exact ⟨_, rfl, fun h => (by cases h), hbw'.alloc hbw'.size _⟩
            by_cases t2 : fin < ef
            · clear hprev
              go_wp2_with fail
              go_ret
              exact ⟨_, rfl, fun h => (by cases h), hbw'.alloc hbw'.size _⟩
            cases k with
            | zero =>
              clear hprev
              simp only [Nat.zero_mul, Nat.add_zero] at c0 c1 d0 d1 d2 d3 d4
              have hd : decide ((0 : Int) < ((0 : Nat) : Int)) = false := by decide
              go_wp2_with fail
              go_quiet (fail)
              go_wp2_with fail
              have hbA : Below wr.heap.size wr ((wr.alloc (.cells #[.string mname, .int .i64 moff, .int .u8 ek, .int .i64 eo, .int .i64 ef, .slice xa xl xc, .slice ya yl yc] 41)).drewN nq) := below_alloc_drewN _ _ _
              refine (unhide IH [.int .u8 ek, .int .i64 eo, .int .i64 ef, .slice xa xl xc, .slice ya yl yc] mval _ (InN.keep (From.of_below (B := 0) hbA) n _ _ (unhide HIN)) (unhide HWE)).mono ?_
              intro e1 w1 h1
              obtain ⟨ok1, rfl, q1, hb1⟩ := h1
              have hb01 : Below W0.heap.size W0 w1 := (hbw.trans (hbA.mono hbw.size)).trans (hb1.mono (Nat.le_trans hbw.size hbA.size))
              have hbw1 : Below w.heap.size w w1 := (unhide HBW0).trans (hb01.mono (unhide HBW0).size)
              clear c0 c1 d0 d1 d2 d3 d4 hd b0 b1 b2 b3 b4
              cases ok1
              · go_wp2_with fail
                go_ret
                exact ⟨_, rfl, fun h => (by cases h), hbw1⟩
              · have HFN := hide ((unhide HFI).succ (unhide HME) (show off < moff by omega) (show moff < offOf n mval by rw [unhide HEO]; omega) (show finOf n mval ≤ fin by rw [unhide HEF]; omega) (fun j e' h => absurd h (by omega)) (q1 rfl))
                clear q1
                go_wp2_with fail
                go_roundw
                case rel => exact ⟨0 + 1, by omega, by go_num, unhide HFN, hb01⟩
                case measure => simp [intOf]; omega
            | succ j =>
              obtain ⟨m', hm', p2⟩ := hprev j rfl
              have HE' := hide hm'
              obtain ⟨pf, hpf⟩ : ∃ pf, finOf n m'.val = pf := ⟨_, rfl⟩
              rw [hpf] at p2
              have HPF := hide hpf
              clear hprev hm' hpf
              have hd : decide ((0 : Int) < ((j + 1 : Nat) : Int)) = true := decide_eq_true (by omega)
              have i0 : (0 : Int) ≤ (j : Int) := by omega
              have i1 : (j : Int) < (ml : Int) := by omega
              have hgz : g < wr.heap.size := Nat.lt_of_lt_of_le hg hbw'.size
              have hwj : IntKind.i64.wrap (j : Int) = (j : Int) := wrap_j j (by omega)
              by_cases t3 : moff < pf
              · go_wp2_with fail
                go_quiet (fail)
                go_wp2_with fail
                go_ret
                exact ⟨_, rfl, fun h => (by cases h), hbw'.trans ((below_alloc_drewN _ _ _).mono hbw'.size)⟩
              · go_wp2_with fail
                go_quiet (fail)
                go_wp2_with fail
                have hbA : Below wr.heap.size wr ((wr.alloc (.cells #[.string mname, .int .i64 moff, .int .u8 ek, .int .i64 eo, .int .i64 ef, .slice xa xl xc, .slice ya yl yc] 41)).drewN nq) := below_alloc_drewN _ _ _
                refine (unhide IH [.int .u8 ek, .int .i64 eo, .int .i64 ef, .slice xa xl xc, .slice ya yl yc] mval _ (InN.keep (From.of_below (B := 0) hbA) n _ _ (unhide HIN)) (unhide HWE)).mono ?_
                intro e1 w1 h1
                obtain ⟨ok1, rfl, q1, hb1⟩ := h1
                have hb01 : Below W0.heap.size W0 w1 := (hbw.trans (hbA.mono hbw.size)).trans (hb1.mono (Nat.le_trans hbw.size hbA.size))
                have hbw1 : Below w.heap.size w w1 := (unhide HBW0).trans (hb01.mono (unhide HBW0).size)
                clear c0 c1 d0 d1 d2 d3 d4 hd p2 b0 b1 b2 b3 b4
                cases ok1
                · go_wp2_with fail
                  go_ret
                  exact ⟨_, rfl, fun h => (by cases h), hbw1⟩
                · have HFN := hide ((unhide HFI).succ (unhide HME) (show off < moff by omega) (show moff < offOf n mval by rw [unhide HEO]; omega) (show finOf n mval ≤ fin by rw [unhide HEF]; omega) (fun j' e'' h hu => by obtain rfl : j = j' := (by omega); rw [unhide HE'] at hu; obtain rfl := Option.some.inj hu; rw [unhide HPF]; show pf ≤ moff; omega) (q1 rfl))
                  clear q1
                  go_wp2_with fail
                  go_roundw
                  case rel => exact ⟨(j + 1) + 1, by omega, by go_num, unhide HFN, hb01⟩
                  case measure => simp [intOf]; omega
          · obtain rfl : ml = k := by omega
            have HF : Hid Q := hide (unhide HQ (unhide HOF) (fun h => absurd h (unhide HK4)) (fun _ => unhide HFI))
            go_wp2_with fail
            go_ret
            exact ⟨_, rfl, fun _ => unhide HF, hbw'⟩
      · have HF : Hid Q := hide (unhide HQ (unhide HOF) (fun h => absurd h hk4) (fun h => absurd h hk5))
        go_wp2_with fail
        go_ret
        exact ⟨_, rfl, fun _ => unhide HF, (Below.refl _ _).alloc (Nat.le_refl _) _⟩

end Go.Proofs.Qxb6630533aDoor
