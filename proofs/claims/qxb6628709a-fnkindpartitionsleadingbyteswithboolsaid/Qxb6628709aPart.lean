/-
  THE WALK of FnKindPartitionsLeadingBytesWithBool (function 4).
-/
import Derived.Test.Qxb6628709aCallees
import Derived.Deep.DeepCutAuto
import Derived.Deep.Light
namespace Go.Proofs.Qxb6628709a.Part
open Go.RowKit

theorem hide {p : Prop} (h : p) : Hid p := h
theorem unhide {p : Prop} (h : Hid p) : p := h
theorem info5 : (Try.prog.info? 5).map (fun i => (i.zero, i.size, i.bytes)) = some (some (.int .u8 0), 1, 1) := by kernel_rfl

/-! ### the callees -/
set_option maxHeartbeats 400000 in
theorem bytes9_yes (a0 : Option Addr) (l0 c0 : Nat) (w : World) (h : l0 ≤ 1048576) :
    Calls Try.prog 9 #[.slice a0 l0 c0] w fun e w' => e = .returned (.bool true) ∧ w' = w := by
  go_enter Try.func9, Try.ntmps9
  go_wp2
  go_ret
  exact ⟨rfl, rfl⟩

set_option maxHeartbeats 400000 in
theorem bytes9_no (a0 : Option Addr) (l0 c0 : Nat) (w : World) (h : ¬ l0 ≤ 1048576) (h0 : l0 ≤ maxLen) :
    Calls Try.prog 9 #[.slice a0 l0 c0] w fun e w' => e = .returned (.bool false) ∧ w' = w := by
  unfold maxLen at h0
  go_enter Try.func9, Try.ntmps9
  go_wp2
  all_goals
    go_ret
    exact ⟨rfl, rfl⟩

set_option maxHeartbeats 400000 in
theorem bool10_nil (a : Option Addr) (c : Nat) (w : World) :
    Calls Try.prog 10 #[.agg #[.slice a 0 c]] w fun e w' => e = .returned (.bool false) ∧ Below w.heap.size w w' := by
  go_enter Try.func10, Try.ntmps10
  go_wp2
  go_ret
  exact ⟨rfl, (Below.refl _ _).alloc (Nat.le_refl _) _⟩

set_option maxHeartbeats 1000000 in
theorem bool10_some (b off l c : Nat) (x : Int) (w : World) (hl : 0 < l) (hb : b < w.heap.size) (hc : w.cell? ⟨b, off, none⟩ = some (.int .u8 x)) :
    Calls Try.prog 10 #[.agg #[.slice (some ⟨b, off, none⟩) l c]] w fun e w' => e = .returned (.bool (x == 116)) ∧ Below w.heap.size w w' := by
  go_enter Try.func10, Try.ntmps10
  go_wp2
  go_ret
  exact ⟨rfl, (Below.refl _ _).alloc (Nat.le_refl _) _⟩

theorem own_block {w : World} {base : Nat} {e : TypeId} {g n : Nat} {xs : List Value} (h : w.ownsRow base e 1 (.slice (some ⟨g, 0, none⟩) n n) n xs) : w.heap[g]? = some (.cells xs.toArray e (0, 0)) ∧ xs.length = n := by
  obtain ⟨hx, ⟨h', _⟩ | ⟨g', cap, cur, hv, _, hh, _, _, hs, ht⟩⟩ := h
  · cases h'
  · simp only [Value.slice.injEq, Option.some.injEq, Addr.mk.injEq, and_true, true_and] at hv
    obtain ⟨rfl, rfl⟩ := hv
    have e1 : cur.toList = xs := by rw [← ht, List.take_of_length_le (by simp; omega)]
    exact ⟨by rw [hh, ← e1], by omega⟩

/-! ### the counts -/
def cnt (k : Nat) (j : Int) : Nat := ((List.range k).filter fun c : Nat => kindOf (c : Int) == j).length
theorem cnt_le (k : Nat) (j : Int) : cnt k j ≤ k := by
  have := List.length_filter_le (fun c : Nat => kindOf (c : Int) == j) (List.range k)
  simpa [cnt] using this
theorem cnt_succ (k : Nat) (j : Int) : cnt (k + 1) j = cnt k j + if kindOf (k : Int) == j then 1 else 0 := by
  unfold cnt
  rw [List.range_succ, List.filter_append, List.length_append]
  congr 1
  simp only [List.filter_cons, List.filter_nil]
  split <;> rfl
def cnts (k : Nat) : List Int := [cnt k 0, cnt k 1, cnt k 2, cnt k 3, cnt k 4, cnt k 5, cnt k 6]
theorem cnts_end : cnts 256 = [248, 2, 2, 1, 1, 1, 1] := by decide +kernel

/-- How many of the first k leading bytes Bool calls true. -/
def trues (k : Nat) : Int := if 116 < k then 1 else 0
theorem trues_same {k : Nat} (h : ((k : Int) == 116) = false) : trues (k + 1) = trues k := by
  have : k ≠ 116 := by intro e; subst e; simp at h
  unfold trues
  by_cases h1 : 116 < k
  · rw [if_pos h1, if_pos (by omega)]
  · rw [if_neg h1, if_neg (by omega)]

theorem cnts_step (k j : Nat) (hj : j < 7) (h : kindOf (k : Int) = (j : Int)) : (((cnts k).map (Value.int .i64)).toArray.setIfInBounds j (.int .i64 ((cnt k j : Int) + 1))) = ((cnts (k + 1)).map (Value.int .i64)).toArray := by
  obtain rfl | rfl | rfl | rfl | rfl | rfl | rfl : j = 0 ∨ j = 1 ∨ j = 2 ∨ j = 3 ∨ j = 4 ∨ j = 5 ∨ j = 6 := by omega
  all_goals simp [cnts, cnt_succ, h]

theorem cnts_at (k j : Nat) (hj : j < 7) : ((cnts k).map (Value.int .i64)).toArray[j]? = some (.int .i64 (cnt k j)) := by
  obtain rfl | rfl | rfl | rfl | rfl | rfl | rfl : j = 0 ∨ j = 1 ∨ j = 2 ∨ j = 3 ∨ j = 4 ∨ j = 5 ∨ j = 6 := by omega
  all_goals rfl

theorem kind_cases (x : Int) : kindOf x = 0 ∨ kindOf x = 1 ∨ kindOf x = 2 ∨ kindOf x = 3 ∨ kindOf x = 4 ∨ kindOf x = 5 ∨ kindOf x = 6 := by
  unfold kindOf
  repeat' split
  all_goals simp

theorem kind_nat (k : Nat) : ∃ j : Nat, j < 7 ∧ kindOf (k : Int) = (j : Int) := by
  rcases kind_cases (k : Int) with h | h | h | h | h | h | h
  · exact ⟨0, by omega, h⟩
  · exact ⟨1, by omega, h⟩
  · exact ⟨2, by omega, h⟩
  · exact ⟨3, by omega, h⟩
  · exact ⟨4, by omega, h⟩
  · exact ⟨5, by omega, h⟩
  · exact ⟨6, by omega, h⟩

theorem kind8_at (b off l c : Nat) (x K : Int) (w : World) (hl : 0 < l) (hb : b < w.heap.size) (hc : w.cell? ⟨b, off, none⟩ = some (.int .u8 x)) (hK : Hid (kindOf x = K)) :
    Calls Try.prog 8 #[.agg #[.slice (some ⟨b, off, none⟩) l c]] w fun e w' => e = .returned (.int .i64 K) ∧ Below w.heap.size w w' := by
  rw [← hK.out]; exact kind8_some b off l c x w hl hb hc

theorem bool10_at (b off l c : Nat) (x : Int) (y : Bool) (w : World) (hl : 0 < l) (hb : b < w.heap.size) (hc : w.cell? ⟨b, off, none⟩ = some (.int .u8 x)) (hy : Hid ((x == 116) = y)) :
    Calls Try.prog 10 #[.agg #[.slice (some ⟨b, off, none⟩) l c]] w fun e w' => e = .returned (.bool y) ∧ Below w.heap.size w w' := by
  rw [← hy.out]; exact bool10_some b off l c x w hl hb hc

/-- WHAT A ROUND DOES: the buffer's block G and the counts' block C, behind a store into each and calls that turn no old block. -/
theorem round_rel {w wr w1 w3 w4 : World} {G C l0 k j B : Nat} {ys : List Value} {o : Obj} (hj : j < 7) (hK : kindOf (k : Int) = (j : Int)) (hG : wr.heap[G]? = some (.cells ys.toArray 5 (0, 0))) (hy : ys.length = l0 + 1)
    (hC : wr.heap[C]? = some (.cells ((cnts k).map (Value.int .i64)).toArray 31 (0, 0))) (hne : C ≠ G) (hB : B ≤ G) (hBC : B ≤ C) (hbw : Below B w wr)
    (hb1 : Below wr.heap.size (wr.setCell ⟨G, 0, none⟩ (.int .u8 k)) w1) (hb3 : Below (w1.heap.size + 1) (w1.alloc o) w3) (hb4 : Below w3.heap.size (w3.setCell ⟨C, j, none⟩ (.int .i64 ((cnt k j : Int) + 1))) w4) :
    (∃ ys' : List Value, w4.heap[G]? = some (.cells ys'.toArray 5 (0, 0)) ∧ ys'.length = l0 + 1) ∧ w4.heap[C]? = some (.cells ((cnts (k + 1)).map (Value.int .i64)).toArray 31 (0, 0)) ∧ Below B w w4 := by
  have lG := lt_of_block hG
  have lC := lt_of_block hC
  have s1 : wr.heap.size ≤ w1.heap.size := by have := hb1.size; simpa [World.setCell] using this
  have s3 : w1.heap.size + 1 ≤ w3.heap.size := by have := hb3.size; simpa using this
  have s4 : w3.heap.size ≤ w4.heap.size := by have := hb4.size; simpa [World.setCell] using this
  have e1 : w1.heap[G]? = some (.cells (ys.set 0 (.int .u8 k)).toArray 5 (0, 0)) := by
    rw [hb1.block G lG, heap_setCell_same _ _ _ _ _ _ hG]; simp
  have e1c : w1.heap[C]? = some (.cells ((cnts k).map (Value.int .i64)).toArray 31 (0, 0)) := by
    rw [hb1.block C lC, heap_setCell_other _ _ _ _ hne]; exact hC
  have e3 : w3.heap[G]? = some (.cells (ys.set 0 (.int .u8 k)).toArray 5 (0, 0)) := by
    rw [hb3.block G (by omega), Below.heap_alloc _ _ _ (by omega)]; exact e1
  have e3c : w3.heap[C]? = some (.cells ((cnts k).map (Value.int .i64)).toArray 31 (0, 0)) := by
    rw [hb3.block C (by omega), Below.heap_alloc _ _ _ (by omega)]; exact e1c
  refine ⟨⟨ys.set 0 (.int .u8 k), ?_, by simpa using hy⟩, ?_, ?_⟩
  · rw [hb4.block G (by omega), heap_setCell_other _ _ _ _ (Ne.symm hne)]; exact e3
  · rw [hb4.block C (by omega), heap_setCell_same _ _ _ _ _ _ e3c, cnts_step k j hj hK]
  · exact ((((hbw.setCell (p := ⟨G, 0, none⟩) hB _).trans (hb1.mono (by omega))).alloc (by omega) o).trans (hb3.mono (by omega))).setCell (p := ⟨C, j, none⟩) hBC _ |>.trans (hb4.mono (by omega))

set_option maxHeartbeats 4000000 in
set_option maxRecDepth 100000 in
theorem part_main (a0 : Option Addr) (l0 c0 : Nat) (z0 : List Int) (w : World) (hl0 : l0 ≤ 65536) (h0 : 0 < l0 → ∃ b off, a0 = some ⟨b, off, none⟩ ∧ b < w.heap.size ∧ ∀ i, i < l0 → w.cell? ⟨b, off + i, none⟩ = some (.int .u8 (z0.getD i 0))) :
    Calls Try.prog 4 #[.slice a0 l0 c0] w fun e w' => e = .returned (.bool true) ∧ Below w.heap.size w w' := by
  obtain ⟨i0, hi, hz0, hz1, hz2⟩ := info_parts info5
  have H0 := hide h0
  clear h0
  go_enter Try.func4, Try.ntmps4
  go_wp2_with (first
    | (go_at_call 9; refine (bytes9_yes _ _ _ _ (by omega)).mono ?_; rintro e w' ⟨rfl, hw⟩; obtain rfl := hw.symm; clear hw)
    | (at_make; refine wpList_make_full _ rfl _ _ 22 rfl w.heap.size 5 i0 (.int .u8 0) 1 Try.underlying22 hi hz0 hz1 _ _ _ _ (l0 + 1) rfl rfl (by omega) (by omega) (by rw [hz2]; omega) (by unfold maxLen; omega) (Nat.le_refl _) ?_; intro w1 hown1 hgrow1))
  go_loopw [4] (fun i wr => ∃ (k : Nat) (xs : List Value), k ≤ l0 ∧ i = .int .i64 k ∧ wr.ownsRow w.heap.size 5 1 (.slice (some ⟨w.heap.size, 0, none⟩) (l0 + 1) (l0 + 1)) (l0 + 1) xs ∧ Below w.heap.size w wr) (fun i _ => l0 - (intOf i).toNat)
  case atStart => exact ⟨0, _, Nat.zero_le _, rfl, hown1, (Below.refl _ _).grown hgrow1 (Nat.le_refl _) (fun k h => by cases h)⟩
  case round =>
    obtain ⟨k, xs, hk1, rfl, hown, hnx⟩ := hrel
    by_cases hlt : k < l0
    · obtain ⟨b, off, rfl, hb, hc⟩ := unhide H0 (by omega)
      have hcx : wr.cell? ⟨b, off + k, none⟩ = some (.int .u8 (z0.getD k 0)) := (hnx.cell (p := ⟨b, off + k, none⟩) hb).trans (hc k hlt)
      have hfr := hown.frozenAt (k + 1)
      have hce : ∃ v, wr.cell? ⟨w.heap.size, k + 1, none⟩ = some v := by
        rw [hown.cellAt (k + 1) (by omega)]
        have := hown.1
        exact ⟨xs[k + 1]'(by omega), by simp⟩
      obtain ⟨v, hce⟩ := hce
      clear hc
      go_wp2
      go_roundw
      case rel => exact ⟨k + 1, _, by omega, by go_num, (hown.stored (k + 1) _).1, hnx.setCell (Nat.le_refl _) _⟩
      case measure => simp [intOf]; omega
    · have hlt' : wr.heap[w.heap.size]? = some (.cells xs.toArray 5 (0, 0)) ∧ xs.length = l0 + 1 := own_block hown
      obtain ⟨hG, hxl⟩ := hlt'
      have HG := hide hG
      clear hG hown
      have hsz : w.heap.size < wr.heap.size := lt_of_block (unhide HG)
      go_wp2
      clear hlt
      obtain ⟨wl, rfl⟩ : ∃ wl : World, wl = wr := ⟨_, rfl⟩
      obtain ⟨G, rfl⟩ : ∃ G, G = w.heap.size := ⟨_, rfl⟩
      go_loopw [6, 7] (fun t i wr => ∃ (k : Nat) (ys : List Value), k ≤ 256 ∧ i = .int .i64 k ∧ t = .int .i64 (trues k) ∧ wr.heap[w.heap.size]? = some (.cells ys.toArray 5 (0, 0)) ∧ ys.length = l0 + 1 ∧ wr.heap[wl.heap.size]? = some (.cells ((cnts k).map (Value.int .i64)).toArray 31 (0, 0)) ∧ Below w.heap.size w wr)
        (fun _ i _ => 256 - (intOf i).toNat)
      case atStart => exact ⟨0, xs, by omega, rfl, rfl, (Below.heap_alloc wl _ _ hsz).trans (unhide HG), hxl, heap_alloc_new _ _, hnx.alloc hnx.size _⟩
      case round =>
        obtain ⟨k, ys, hk, rfl, rfl, hG, hyl, hC, hbw⟩ := hrel
        have hGz : w.heap.size < wr.heap.size := lt_of_block hG
        have hCz : wl.heap.size < wr.heap.size := lt_of_block hC
        have hne : wl.heap.size ≠ w.heap.size := by omega
        have HG1 := hide hG
        have HC1 := hide hC
        clear hG hC
        clear hown1 hgrow1 hnx HG H0 hxl hz0 hz1 hz2 hi hk1
        by_cases hlt : k < 256
        · have g0 : ∃ v, wr.cell? ⟨w.heap.size, 0, none⟩ = some v := ⟨ys[0]'(by omega), by rw [cell_of_row _ _ _ _ _ _ (unhide HG1)]; simp⟩
          obtain ⟨v0, g0⟩ := g0
          have f0 : wr.frozen? ⟨w.heap.size, 0, none⟩ = false := frozen_of_row _ _ _ _ _ (unhide HG1)
          obtain ⟨j, hj, hK⟩ := kind_nat k
          have cj : wr.cell? ⟨wl.heap.size, j, none⟩ = some (.int .i64 (cnt k j)) := by rw [cell_of_row _ _ _ _ _ _ (unhide HC1)]; exact cnts_at k j hj
          have fj : wr.frozen? ⟨wl.heap.size, j, none⟩ = false := frozen_of_row _ _ _ _ _ (unhide HC1)
          have bd := cnt_le k j
          have HK := hide hK
          have hz : 0 < l0 + 1 := by omega
          clear hK
          go_wp2_with fail
          refine (new7 _ _ _ _).mono ?_
          rintro e w1 ⟨rfl, hb1⟩
          have hb1' : Below wr.heap.size (wr.setCell ⟨w.heap.size, 0, none⟩ (.int .u8 k)) w1 := by simpa [World.setCell] using hb1
          have s1 : wr.heap.size ≤ w1.heap.size := by have := hb1'.size; simpa [World.setCell] using this
          have g1 : w1.cell? ⟨w.heap.size, 0, none⟩ = some (.int .u8 k) := (hb1'.cell (p := ⟨w.heap.size, 0, none⟩) hGz).trans (World.cell?_setCell_same' _ _ _ (by rw [g0]; rfl))
          have d1 : w1.cell? ⟨wl.heap.size, j, none⟩ = some (.int .i64 (cnt k j)) := ((hb1'.cell (p := ⟨wl.heap.size, j, none⟩) hCz).trans (World.cell?_of_block (heap_setCell_other _ _ _ _ hne))).trans cj
          have e1 : w1.frozen? ⟨wl.heap.size, j, none⟩ = false := ((hb1'.frozen (p := ⟨wl.heap.size, j, none⟩) hCz).trans (World.frozen?_of_block (heap_setCell_other _ _ _ _ hne))).trans fj
          clear hb1 cj fj g0 f0
          go_wp2_with fail
          refine (kind8_at _ _ _ _ k j _ hz (by simp; omega) (by rw [World.cell?_alloc_past _ _ _ (by omega)]; exact g1) HK).mono ?_
          rintro e w3 ⟨rfl, hb3⟩
          have hb3' : Below (w1.heap.size + 1) (w1.alloc (.cells #[.slice (some ⟨w.heap.size, 0, none⟩) (l0 + 1) (l0 + 1)] 27)) w3 := by simpa using hb3
          have s3 : w1.heap.size + 1 ≤ w3.heap.size := by have := hb3'.size; simpa using this
          have g3 : w3.cell? ⟨w.heap.size, 0, none⟩ = some (.int .u8 k) := (hb3'.cell (p := ⟨w.heap.size, 0, none⟩) (show w.heap.size < w1.heap.size + 1 by omega)).trans ((World.cell?_alloc_past _ _ _ (by omega)).trans g1)
          have d3 : w3.cell? ⟨wl.heap.size, j, none⟩ = some (.int .i64 (cnt k j)) := (hb3'.cell (p := ⟨wl.heap.size, j, none⟩) (show wl.heap.size < w1.heap.size + 1 by omega)).trans ((World.cell?_alloc_past _ _ _ (by omega)).trans d1)
          have e3 : w3.frozen? ⟨wl.heap.size, j, none⟩ = false := (hb3'.frozen (p := ⟨wl.heap.size, j, none⟩) (show wl.heap.size < w1.heap.size + 1 by omega)).trans ((World.frozen?_of_block (Below.heap_alloc _ _ _ (show wl.heap.size < w1.heap.size by omega))).trans e1)
          have b3 : w3.cell? ⟨w1.heap.size, 0, none⟩ = some (.slice (some ⟨w.heap.size, 0, none⟩) (l0 + 1) (l0 + 1)) := (hb3'.cell (p := ⟨w1.heap.size, 0, none⟩) (show w1.heap.size < w1.heap.size + 1 by omega)).trans (World.cell?_alloc_at _ _ _ _ rfl)
          clear hb3 d1 e1 g1
          go_wp2_with fail
          have g4 : (w3.setCell ⟨wl.heap.size, j, none⟩ (.int .i64 ((cnt k j : Int) + 1))).cell? ⟨w.heap.size, 0, none⟩ = some (.int .u8 k) := (World.cell?_of_block (heap_setCell_other _ _ _ _ (Ne.symm hne))).trans g3
          by_cases h116 : k = 116
          · obtain rfl : j = 1 := by
              have := unhide HK
              rw [h116] at this
              have e : kindOf ((116 : Nat) : Int) = 1 := rfl
              omega
            refine (bool10_at _ _ _ _ k true _ hz (by simp [World.setCell]; omega) g4 (hide (by rw [h116]; rfl))).mono ?_
            rintro e w4 ⟨rfl, hb4⟩
            have R := round_rel hj (unhide HK) (unhide HG1) hyl (unhide HC1) hne (Nat.le_refl _) (by omega) hbw hb1' hb3' (by simpa [World.setCell] using hb4)
            have HR := hide R
            have ht : trues k = 0 := by rw [h116]; rfl
            have ht1 : trues (k + 1) = 1 := by rw [h116]; rfl
            clear R hb4 g4 g3 d3 e3 b3 hb3' hb1' HG1 HC1 HK h116
            go_wp2
            go_roundw
            case rel =>
              obtain ⟨⟨ys', r1, r2⟩, r3, r4⟩ := unhide HR
              exact ⟨k + 1, ys', by omega, by go_num, by rw [ht1], r1, r2, r3, r4⟩
            case measure => simp [intOf]; omega
          · have hf : ((k : Int) == 116) = false := by simp; omega
            refine (bool10_at _ _ _ _ k false _ hz (by simp [World.setCell]; omega) g4 (hide hf)).mono ?_
            rintro e w4 ⟨rfl, hb4⟩
            have R := round_rel hj (unhide HK) (unhide HG1) hyl (unhide HC1) hne (Nat.le_refl _) (by omega) hbw hb1' hb3' (by simpa [World.setCell] using hb4)
            have HR := hide R
            have HT := hide (trues_same hf)
            clear R hb4 g4 g3 d3 e3 b3 hb3' hb1' HG1 HC1 HK hf
            go_wp2
            go_roundw
            case rel =>
              obtain ⟨⟨ys', r1, r2⟩, r3, r4⟩ := unhide HR
              exact ⟨k + 1, ys', by omega, by go_num, by rw [unhide HT], r1, r2, r3, r4⟩
            case measure => simp [intOf]; omega
        · have hk : k = 256 := by omega
          subst hk
          have hC := unhide HC1
          rw [cnts_end] at hC
          have c0 : wr.cell? ⟨wl.heap.size, 0, none⟩ = some (.int .i64 248) := by rw [cell_of_row _ _ _ _ _ _ hC]; rfl
          have c1 : wr.cell? ⟨wl.heap.size, 1, none⟩ = some (.int .i64 2) := by rw [cell_of_row _ _ _ _ _ _ hC]; rfl
          have c2 : wr.cell? ⟨wl.heap.size, 2, none⟩ = some (.int .i64 2) := by rw [cell_of_row _ _ _ _ _ _ hC]; rfl
          have c3 : wr.cell? ⟨wl.heap.size, 3, none⟩ = some (.int .i64 1) := by rw [cell_of_row _ _ _ _ _ _ hC]; rfl
          have c4 : wr.cell? ⟨wl.heap.size, 4, none⟩ = some (.int .i64 1) := by rw [cell_of_row _ _ _ _ _ _ hC]; rfl
          have c5 : wr.cell? ⟨wl.heap.size, 5, none⟩ = some (.int .i64 1) := by rw [cell_of_row _ _ _ _ _ _ hC]; rfl
          have c6 : wr.cell? ⟨wl.heap.size, 6, none⟩ = some (.int .i64 1) := by rw [cell_of_row _ _ _ _ _ _ hC]; rfl
          have ht : trues 256 = 1 := rfl
          have q1 : wl.heap.size < wr.heap.size + 1 := by omega
          have q2 : wl.heap.size < wr.heap.size + 1 + 1 := by omega
          have q3 : wl.heap.size < wr.heap.size + 2 := by omega
          have heq : ∀ w, (binOp .eql 31 (.agg #[.int .i64 248, .int .i64 2, .int .i64 2, .int .i64 1, .int .i64 1, .int .i64 1, .int .i64 1]) (.agg #[.int .i64 248, .int .i64 2, .int .i64 2, .int .i64 1, .int .i64 1, .int .i64 1, .int .i64 1])).run Try.prog w = .ok (.bool true) w := fun _ => by kernel_rfl
          clear hC
          go_wp2
          go_ret
          exact ⟨rfl, ((hbw.alloc hbw.size _).alloc (by have := hbw.size; simp; omega) _).alloc (by have := hbw.size; simp; omega) _⟩

set_option maxHeartbeats 400000 in
theorem part_long (a0 : Option Addr) (l0 c0 : Nat) (w : World) (h0 : l0 ≤ maxLen) (h : ¬ l0 ≤ 65536) :
    Calls Try.prog 4 #[.slice a0 l0 c0] w fun e w' => e = .returned (.bool true) ∧ Below w.heap.size w w' := by
  by_cases hs : l0 ≤ 1048576
  · have HC := hide (bytes9_yes a0 l0 c0 w hs)
    go_enter Try.func4, Try.ntmps4
    go_wp2_with fail
    refine (unhide HC).mono ?_
    rintro e w' ⟨rfl, hw⟩
    obtain rfl := hw.symm
    go_wp2_with fail
    go_ret
    exact ⟨rfl, Below.refl _ _⟩
  · have HC := hide (bytes9_no a0 l0 c0 w hs h0)
    go_enter Try.func4, Try.ntmps4
    go_wp2_with fail
    refine (unhide HC).mono ?_
    rintro e w' ⟨rfl, hw⟩
    obtain rfl := hw.symm
    go_wp2_with fail
    go_ret
    exact ⟨rfl, Below.refl _ _⟩

end Go.Proofs.Qxb6628709a.Part
