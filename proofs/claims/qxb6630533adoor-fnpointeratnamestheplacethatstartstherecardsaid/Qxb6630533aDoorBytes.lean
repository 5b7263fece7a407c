/-
  zzjdBytesLeft (function 5): where it answers 0 or more, the tree weighs no more than was handed in.
-/
import Derived.Test.Qxb6630533aDoorMem
namespace Go.Proofs.Qxb6630533aDoor
open Go.RowKit

/-- What zzjdBytesLeft answers: the rest, where the weight fits. -/
def Left5 (left : Int) (wt : Nat) (w : World) (e : Ending) (w' : World) : Prop :=
  ∃ r : Int, e = .returned (.int .i64 r) ∧ -2097152 ≤ r ∧ r ≤ left ∧ (0 ≤ r → r + wt ≤ left) ∧ Below w.heap.size w w'

theorem cell5 {w : World} {g o : Nat} {a b c d e : Value} (h : Cells w g o [a, b, c, d, e]) :
    w.cell? ⟨g, o, none⟩ = some a ∧ w.cell? ⟨g, o + 1, none⟩ = some b ∧ w.cell? ⟨g, o + 2, none⟩ = some c ∧ w.cell? ⟨g, o + 3, none⟩ = some d ∧ w.cell? ⟨g, o + 4, none⟩ = some e :=
  ⟨h 0 (by simp), h 1 (by simp), h 2 (by simp), h 3 (by simp), h 4 (by simp)⟩

theorem cell7 {w : World} {g o : Nat} {x y a b c d e : Value} (h : Cells w g o [x, y, a, b, c, d, e]) :
    w.cell? ⟨g, o, none⟩ = some x ∧ w.cell? ⟨g, o + 1, none⟩ = some y ∧ w.cell? ⟨g, o + 2, none⟩ = some a ∧ w.cell? ⟨g, o + 2 + 1, none⟩ = some b ∧ w.cell? ⟨g, o + 2 + 2, none⟩ = some c ∧ w.cell? ⟨g, o + 2 + 3, none⟩ = some d ∧ w.cell? ⟨g, o + 2 + 4, none⟩ = some e :=
  ⟨h 0 (by simp), h 1 (by simp), h 2 (by simp), h 3 (by simp), h 4 (by simp), h 5 (by simp), h 6 (by simp)⟩

set_option maxHeartbeats 4000000 in
set_option maxRecDepth 100000 in
theorem bytes5 : ∀ (n : Nat) (cs : List Value) (t : Tr n) (left : Int) (w : World), InN w 0 n cs t → 0 ≤ left → left ≤ 1048576 →
    Calls Tryd.prog 5 #[.agg cs.toArray, .int .i64 left] w fun e w' => Left5 left (weight n t) w e w' := by
  intro n
  induction n with
  | zero => intro cs t left w h; exact h.elim
  | succ n ih =>
    rintro cs t left w ⟨ea, el, ec, ma, ml, mc, rfl, _, ⟨_, _, hel, hml⟩, hE, hM⟩ hl0 hl1
    obtain ⟨kind, off, fin, els, mem⟩ := (t : TrF (Tr n))
    simp only at hE hM
    have HE := hide hE
    have HM := hide hM
    have IH := hide ih
    unfold maxLen at hel hml
    clear hE hM ih
    by_cases h64 : left < 64
    · go_enter Tryd.func5, Tryd.ntmps5
      go_wp2_with fail
      go_ret
      exact ⟨_, rfl, by omega, by omega, fun h => absurd h (by omega), (Below.refl _ _).alloc (Nat.le_refl _) _⟩
    obtain ⟨W0, hW0⟩ : ∃ W0, W0 = w.alloc (.cells #[.int .u8 kind, .int .i64 off, .int .i64 fin, .slice ea el ec, .slice ma ml mc] 25) := ⟨_, rfl⟩
    have HW0 := hide hW0
    go_enter Tryd.func5, Tryd.ntmps5
    go_wp2_with fail
    rw [← hW0]
    have HS0 : Hid (W0.heap.size = w.heap.size + 1) := hide (by rw [hW0]; simp)
    have HB0 : Hid (Cells W0 w.heap.size 0 [.int .u8 kind, .int .i64 off, .int .i64 fin, .slice ea el ec, .slice ma ml mc]) := hide (cells_of_block (by rw [hW0]; exact heap_alloc_new _ _))
    have HBW0 : Hid (Below w.heap.size w W0) := hide (by rw [hW0]; exact (Below.refl _ _).alloc (Nat.le_refl _) _)
    clear hW0 HW0
    go_loopw [1, 5] (fun v i wr => ∃ (k : Nat) (r : Int), k ≤ el ∧ i = .int .i64 k ∧ v = .int .i64 r ∧ 0 ≤ r ∧ r + 64 + ((els.take k).map (weight n)).sum ≤ left ∧ Below W0.heap.size W0 wr) (fun _ i _ => el - (intOf i).toNat)
    case atStart => exact ⟨0, left - 64, Nat.zero_le _, rfl, rfl, by omega, by simp, Below.refl _ _⟩
    case round =>
      obtain ⟨k, r, hk, rfl, rfl, hr0, hr1, hbw⟩ := hrel
      have hr2 : r ≤ 1048576 := by omega
      have HR1 := hide hr1
      have hz : w.heap.size < wr.heap.size := by have := hbw.size; rw [unhide HS0] at this; omega
      have hbw' : Below w.heap.size w wr := (unhide HBW0).trans (hbw.mono (unhide HBW0).size)
      obtain ⟨b0, b1, b2, b3, b4⟩ := cell5 ((unhide HB0).keep (From.of_below (B := 0) hbw) (Nat.zero_le _) (by rw [unhide HS0]; omega))
      simp only [Nat.zero_add] at b0 b1 b2 b3 b4
      clear hr1
      by_cases hlt : k < el
      · obtain ⟨hl, h | ⟨g, o, rfl, _, hg, hc⟩⟩ := unhide HE
        · exact absurd h (by omega)
        obtain ⟨e, he⟩ : ∃ e, els[k]? = some e := ⟨els[k]'(by omega), by simp⟩
        obtain ⟨cs, hcl, hcc, hin⟩ := hc k e he
        have hccr := hcc.keep (From.of_below (B := 0) hbw') (Nat.zero_le _) hg
        have hinr := InN.keep (From.of_below hbw') n cs e hin
        have HIN := hide hinr
        have HEL := hide he
        clear hc hcc hin hinr he hl
        match cs, hcl with
        | [x0, x1, x2, x3, x4], _ =>
          obtain ⟨c0, c1, c2, c3, c4⟩ := cell5 hccr
          clear hccr
          go_wp2_with fail
          refine (unhide IH [x0, x1, x2, x3, x4] e r _ (unhide HIN) hr0 hr2).mono ?_
          intro e1 w1 h1
          obtain ⟨r1, rfl, q0, q1, q2, hb1⟩ := h1
          have hb01 : Below W0.heap.size W0 w1 := hbw.trans (hb1.mono hbw.size)
          have hbw1 : Below w.heap.size w w1 := hbw'.trans (hb1.mono hbw'.size)
          clear c0 c1 c2 c3 c4 b0 b1 b2 b3 b4
          by_cases hn : r1 < 0
          · go_wp2_with fail
            go_ret
            exact ⟨_, rfl, by omega, by omega, fun h => absurd h (by omega), hbw1⟩
          · have hq := q2 (by omega)
            have hfin : r1 + 64 + ((els.take (k + 1)).map (weight n)).sum ≤ left := by
              have := unhide HR1
              rw [sum_take_succ (weight n) els k e (unhide HEL)]
              omega
            have HFIN := hide hfin
            clear hfin hq q2
            go_wp2_with fail
            go_roundw
            case rel => exact ⟨k + 1, r1, by omega, by go_num, rfl, by omega, unhide HFIN, hb01⟩
            case measure => simp [intOf]; omega
      · have hkl : el = k := by omega
        subst hkl
        have HSUM : Hid (r + 64 + (els.map (weight n)).sum ≤ left) := hide (by
          have h1 := unhide HR1
          have h2 := (unhide HE).1
          rw [List.take_of_length_le (by omega)] at h1
          exact h1)
        obtain ⟨wl, rfl⟩ : ∃ wl : World, wl = wr := ⟨_, rfl⟩
        clear HR1 hk
        go_wp2_with fail
        clear hlt b0 b1 b2 b3 b4
        go_loopw [1, 6] (fun v i wr => ∃ (k : Nat) (r : Int), k ≤ ml ∧ i = .int .i64 k ∧ v = .int .i64 r ∧ 0 ≤ r ∧ r + 64 + (els.map (weight n)).sum + ((mem.take k).map fun m => 16 + m.name.size + weight n m.val).sum ≤ left ∧ Below W0.heap.size W0 wr) (fun _ i _ => ml - (intOf i).toNat)
        case atStart => exact ⟨0, r, Nat.zero_le _, rfl, rfl, hr0, by have := unhide HSUM; simpa using this, hbw⟩
        case round =>
          obtain ⟨k, r, hk, rfl, rfl, hr0, hr1, hbw2⟩ := hrel
          have hr2 : r ≤ 1048576 := by omega
          have HR1 := hide hr1
          have hz : w.heap.size < wr.heap.size := by have := hbw2.size; rw [unhide HS0] at this; omega
          have hbw2' : Below w.heap.size w wr := (unhide HBW0).trans (hbw2.mono (unhide HBW0).size)
          obtain ⟨b0, b1, b2, b3, b4⟩ := cell5 ((unhide HB0).keep (From.of_below (B := 0) hbw2) (Nat.zero_le _) (by rw [unhide HS0]; omega))
          simp only [Nat.zero_add] at b0 b1 b2 b3 b4
          clear hr1 HSUM hbw hbw'
          by_cases hlt : k < ml
          · obtain ⟨hl, h | ⟨g, o, rfl, _, hg, hc⟩⟩ := unhide HM
            · exact absurd h (by omega)
            obtain ⟨m, hm⟩ : ∃ m, mem[k]? = some m := ⟨mem[k]'(by omega), by simp⟩
            obtain ⟨cs, hcl, hcc, rr, hcs, _, hin⟩ := hc k m hm
            have hccr := hcc.keep (From.of_below (B := 0) hbw2') (Nat.zero_le _) hg
            have hinr := InN.keep (From.of_below hbw2') n rr m.val hin
            have HIN := hide hinr
            have HME := hide hm
            subst hcs
            clear hc hcc hin hinr hm hl
            obtain ⟨mname, moff, mval⟩ := m
            have hcl5 : rr.length = 5 := by simpa using hcl
            clear hcl
            match rr, hcl5 with
            | [x0, x1, x2, x3, x4], _ =>
              obtain ⟨c0, c1, d0, d1, d2, d3, d4⟩ := cell7 hccr
              clear hccr
              by_cases h16 : r < 16
              · go_wp2_with fail
                go_ret
                exact ⟨_, rfl, by omega, by omega, fun h => absurd h (by omega), hbw2'⟩
              by_cases hnm : r - 16 < mname.size
              · go_wp2_with fail
                go_ret
                exact ⟨_, rfl, by omega, by omega, fun h => absurd h (by omega), hbw2'⟩
              go_wp2_with fail
              refine (unhide IH [x0, x1, x2, x3, x4] mval (r - 16 - mname.size) _ (unhide HIN) (by omega) (by omega)).mono ?_
              intro e1 w1 h1
              obtain ⟨r1, rfl, q0, q1, q2, hb1⟩ := h1
              have hb01 : Below W0.heap.size W0 w1 := hbw2.trans (hb1.mono hbw2.size)
              have hbw1 : Below w.heap.size w w1 := hbw2'.trans (hb1.mono hbw2'.size)
              clear c0 c1 d0 d1 d2 d3 d4 b0 b1 b2 b3 b4
              by_cases hn : r1 < 0
              · go_wp2_with fail
                go_ret
                exact ⟨_, rfl, by omega, by omega, fun h => absurd h (by omega), hbw1⟩
              · have hq := q2 (by omega)
                have hfin : r1 + 64 + (els.map (weight n)).sum + ((mem.take (k + 1)).map fun m => 16 + m.name.size + weight n m.val).sum ≤ left := by
                  have := unhide HR1
                  rw [sum_take_succ (fun m : MemF (Tr n) => 16 + m.name.size + weight n m.val) mem k _ (unhide HME)]
                  simp only
                  omega
                have HFIN := hide hfin
                clear hfin hq q2
                go_wp2_with fail
                go_roundw
                case rel => exact ⟨k + 1, r1, by omega, by go_num, rfl, by omega, unhide HFIN, hb01⟩
                case measure => simp [intOf]; omega
          · have hfin : r + weight (n + 1) (⟨kind, off, fin, els, mem⟩ : TrF (Tr n)) ≤ left := by
              have h1 := unhide HR1
              have h2 := (unhide HM).1
              rw [List.take_of_length_le (by omega)] at h1
              show r + ((64 + (els.map (weight n)).sum + (mem.map fun m => 16 + m.name.size + weight n m.val).sum : Nat) : Int) ≤ left
              omega
            have HFIN := hide hfin
            clear hfin
            go_wp2_with fail
            go_ret
            exact ⟨_, rfl, by omega, by have := unhide HFIN; omega, fun _ => unhide HFIN, hbw2'⟩

end Go.Proofs.Qxb6630533aDoor
