/-
  THE WALK of FnKindJoinedIsKindOfLeadingPart (function 3).
-/
import Derived.Test.Qxb6628709aCallees
import Derived.Deep.DeepCutAuto
import Derived.Deep.Light
import Derived.Laws.CopyOwn
namespace Go.Proofs.Qxb6628709a
open Go.RowKit

theorem Try.info5 : (Try.prog.info? 5).map (fun i => (i.zero, i.size, i.bytes)) = some (some (.int .u8 0), 1, 1) := by kernel_rfl
theorem Try.size5 : (Try.prog.info? 5).map (·.size) = some 1 := by kernel_rfl

theorem hide {p : Prop} (h : p) : Hid p := h
theorem unhide {p : Prop} (h : Hid p) : p := h

/-- A slice of bytes that came in: nil, or a row of cells. -/
def Came (w : World) (a : Option Addr) (len : Nat) (zs : List Int) : Prop :=
  zs.length = len ∧ ((a = none ∧ len = 0) ∨ ∃ x, a = some x ∧ ∀ i, i < len → w.cell? (x.add i) = some (.int .u8 (zs.getD i 0)))

/-- A slice of bytes that is nil, or lies at a block's head. -/
def Held (w : World) (v : Value) (zs : List Int) : Prop :=
  ((∃ c, v = .slice none zs.length c) ∧ zs.length ≤ 0) ∨ ∃ g, v = .slice (some ⟨g, 0, none⟩) zs.length zs.length ∧ g < w.heap.size ∧ ∀ i, i < zs.length → w.cell? ⟨g, i, none⟩ = some (.int .u8 (zs.getD i 0))

theorem Held.below {w w' : World} {v : Value} {zs : List Int} (h : Held w v zs) (hb : Below w.heap.size w w') : Held w' v zs := by
  rcases h with h | ⟨g, hv, hg, hc⟩
  · exact .inl h
  · exact .inr ⟨g, hv, Nat.lt_of_lt_of_le hg hb.size, fun i hi => (hb.cell (p := ⟨g, i, none⟩) hg).trans (hc i hi)⟩

theorem Came.below {w w' : World} {a : Option Addr} {len : Nat} {zs : List Int} (h : Came w a len zs) (hb : Below w.heap.size w w') : Came w' a len zs := by
  rcases h with ⟨hz, h | ⟨x, hx, hc⟩⟩
  · exact ⟨hz, .inl h⟩
  · exact ⟨hz, .inr ⟨x, hx, fun i hi => (hb.cell (World.block_lt_of_cell? w _ (hc i hi))).trans (hc i hi)⟩⟩

theorem own_block {w : World} {base : Nat} {e : TypeId} {g n : Nat} {xs : List Value} (h : w.ownsRow base e 1 (.slice (some ⟨g, 0, none⟩) n n) n xs) : w.heap[g]? = some (.cells xs.toArray e (0, 0)) := by
  obtain ⟨_, ⟨h', _⟩ | ⟨g', cap, cur, hv, _, hh, _, _, hs, ht⟩⟩ := h
  · cases h'
  · simp only [Value.slice.injEq, Option.some.injEq, Addr.mk.injEq, and_true, true_and] at hv
    obtain ⟨rfl, rfl⟩ := hv
    have e1 : cur.toList = xs := by rw [← ht, List.take_of_length_le (by simp; omega)]
    rw [hh, ← e1]

theorem copy_src {w w1 : World} {x : Addr} {zs : List Int} {CS : List Value} {l : Nat} (hz : zs.length = l) (hCS : CS = zs.map (Value.int .u8)) (hc : ∀ i, i < l → w.cell? (x.add i) = some (.int .u8 (zs.getD i 0))) (hg : w.grownBy w1 none) :
    ∀ j v, CS[j]? = some v → w1.cell? (x.add j) = some v := by
  intro j v hv
  subst hCS
  rw [List.getElem?_map] at hv
  obtain ⟨n, hn, rfl⟩ := Option.map_eq_some_iff.1 hv
  have hj : j < zs.length := (List.getElem?_eq_some_iff.1 hn).1
  have := hc j (by omega)
  rw [List.getD_eq_getElem?_getD, hn] at this
  exact hg.cell this (by simp)

theorem splice_all {α : Type} {L cs : List α} (h : L.length = cs.length) : splice L 0 cs = cs := by
  simp [splice, h]

theorem held_of_block {w : World} {g : Nat} {zs : List Int} {CS CUR : List Value} (hCS : CS = zs.map (Value.int .u8)) (hCL : CUR.length = zs.length) (h : w.heap[g]? = some (.cells (splice CUR 0 CS).toArray 5 (0, 0))) (l : Nat) (hl : zs.length = l) :
    Held w (.slice (some ⟨g, 0, none⟩) l l) zs := by
  subst hCS; subst hl
  rw [splice_all (by simpa using hCL)] at h
  refine .inr ⟨g, rfl, (Array.getElem?_eq_some_iff.1 h).1, fun i hi => ?_⟩
  rw [cell_of_row w g i _ 5 (0, 0) h]
  simp [hi]

/-- The kind of an encoding: its head's. -/
def kindHead : List Int → Int
  | [] => 0
  | x :: _ => kindOf x

/-- A slice of bytes, of which the first is known. -/
def Head (w : World) (a : Option Addr) (len : Nat) (zs : List Int) : Prop :=
  zs.length = len ∧ (len = 0 ∨ ∃ g, a = some ⟨g, 0, none⟩ ∧ g < w.heap.size ∧ w.cell? ⟨g, 0, none⟩ = some (.int .u8 (zs.getD 0 0)))

theorem kind8_head (a : Option Addr) (l c : Nat) (zs : List Int) (K : Int) (w : World) (h : Head w a l zs) (hK : Hid (kindHead zs = K)) :
    Calls Try.prog 8 #[.agg #[.slice a l c]] w fun e w' => e = .returned (.int .i64 K) ∧ Below w.heap.size w w' := by
  have hK := hK.out
  obtain ⟨hz, h | ⟨g, rfl, hg, hc⟩⟩ := h
  · subst h
    have : zs = [] := List.eq_nil_of_length_eq_zero hz
    subst this
    rw [← hK]
    exact kind8_nil a c w
  · cases zs with
    | nil => subst hz; rw [← hK]; exact kind8_nil _ c w
    | cons x r => rw [← hK]; exact kind8_some g 0 l c x w (by simp at hz; omega) hg (by simpa using hc)

theorem head_append_left {z0 z1 : List Int} (h : 0 < z0.length) : kindHead z0 = kindHead (z0 ++ z1) := by
  cases z0 with
  | nil => simp at h
  | cons x r => rfl
theorem head_append_right {z0 z1 : List Int} (h : ¬ 0 < z0.length) : kindHead z1 = kindHead (z0 ++ z1) := by
  cases z0 with
  | nil => rfl
  | cons x r => simp at h
theorem head_getD {zs : List Int} (h : 0 < zs.length) : kindOf (zs.getD 0 0) = kindHead zs := by
  cases zs with
  | nil => simp at h
  | cons x r => rfl

theorem take_snoc_map (zs : List Int) (k : Nat) (h : k < zs.length) : (zs.take k).map (Value.int .u8) ++ [.int .u8 (zs.getD k 0)] = (zs.take (k + 1)).map (Value.int .u8) := by
  rw [List.take_succ_eq_append_getElem h, List.map_append]
  simp only [List.getD, h, List.getElem?_eq_getElem, Option.getD_some, List.map_cons, List.map_nil]

theorem Head.below {w w' : World} {a : Option Addr} {len : Nat} {zs : List Int} (h : Head w a len zs) (hb : Below w.heap.size w w') : Head w' a len zs := by
  obtain ⟨hz, h | ⟨g, hx, hg, hc⟩⟩ := h
  · exact ⟨hz, .inl h⟩
  · exact ⟨hz, .inr ⟨g, hx, Nat.lt_of_lt_of_le hg hb.size, (hb.cell (p := ⟨g, 0, none⟩) hg).trans hc⟩⟩

theorem tag6_of (x K : Int) (w : World) (h : Hid (kindOf x = K)) : Calls Try.prog 6 #[.int .u8 x] w fun e w' => e = .returned (.int .i64 K) ∧ w' = w := by
  rw [← h.out]; exact tag6 x w

theorem head_of_own {w : World} {base g n cap : Nat} {zs : List Int} (h : w.ownsRow base 5 1 (.slice (some ⟨g, 0, none⟩) n cap) n (zs.map (Value.int .u8))) : Head w (some ⟨g, 0, none⟩) n zs := by
  have hz : zs.length = n := by have := h.1; simpa using this
  refine ⟨hz, ?_⟩
  by_cases h0 : n = 0
  · exact .inl h0
  · have hc := h.cellAt 0 (by omega)
    have : (zs.map (Value.int .u8))[0]? = some (.int .u8 (zs.getD 0 0)) := by
      cases zs with
      | nil => simp at hz; omega
      | cons x r => simp
    rw [this] at hc
    exact .inr ⟨g, rfl, World.block_lt_of_cell? w _ hc, hc⟩

theorem Held.head {w : World} {a : Option Addr} {l c : Nat} {zs : List Int} (h : Held w (.slice a l c) zs) : Head w a l zs := by
  rcases h with ⟨⟨c', h⟩, hz⟩ | ⟨g, hv, hg, hc⟩
  · simp only [Value.slice.injEq] at h
    obtain ⟨rfl, rfl, rfl⟩ := h
    exact ⟨rfl, .inl (by omega)⟩
  · simp only [Value.slice.injEq] at hv
    obtain ⟨rfl, rfl, rfl⟩ := hv
    refine ⟨rfl, ?_⟩
    by_cases h0 : zs.length = 0
    · exact .inl h0
    · exact .inr ⟨g, rfl, hg, hc 0 (by omega)⟩

set_option maxHeartbeats 4000000 in
set_option maxRecDepth 100000 in
theorem joined_main (a0 a1 : Option Addr) (l0 c0 l1 c1 : Nat) (z0 z1 : List Int) (w : World) (h0 : Came w a0 l0 z0) (h1 : Came w a1 l1 z1) (hl0 : l0 ≤ 65536) (hl1 : l1 ≤ 65536) :
    Calls Try.prog 3 #[.slice a0 l0 c0, .slice a1 l1 c1] w fun e w' => e = .returned (.bool true) ∧ Below w.heap.size w w' := by
  obtain ⟨i0, hi, hz0, hz1, hz2⟩ := info_parts Try.info5
  have hneq := fun (w : World) (a : Option Addr) (n c : Nat) => run_neq_slice_nil_any (P := Try.prog) w 22 5 a n c 0 0 Try.underlying22
  have hn0 : z0.length ≤ 65536 := by have := h0.1; omega
  have hn1 : z1.length ≤ 65536 := by have := h1.1; omega
  have Hn := hide (And.intro hn0 hn1)
  clear hn0 hn1
  go_enter Try.func3, Try.ntmps3
  go_upto_if 24 with (go_at_call 5; refine (bytes5_yes _ _ _ _ _ _ _ (by omega)).mono ?_; rintro e w' ⟨rfl, hw⟩; obtain rfl := hw.symm)
  go_cut [0] (fun s w' => Held w' s z0 ∧ Below w.heap.size w w')
  case first =>
    rcases h0 with ⟨hz, ⟨rfl, hl⟩ | ⟨x, rfl, hc⟩⟩
    · have hz' : z0 = [] := List.eq_nil_of_length_eq_zero (by omega)
      subst hz'
      subst hl
      go_wp2
      go_meet
      case rel => exact ⟨.inl ⟨⟨_, rfl⟩, Nat.le_refl _⟩, Below.refl _ _⟩
    · obtain ⟨CS, hCS⟩ : ∃ CS, CS = z0.map (Value.int .u8) := ⟨_, rfl⟩
      have hlen : CS.length = l0 := by rw [hCS]; simpa using hz
      have HP2 : Hid (∀ v ∈ CS, v.oneCell' = true) := hide (by rw [hCS]; exact ints_oneCell _ _)
      have HCS := hide hCS
      have HC := hide hc
      clear hCS hc
      obtain ⟨CUR, hCUR⟩ : ∃ CUR, CUR = (madeCells (Value.cells (.int .u8 0)) (l0 * 1)).toList := ⟨_, rfl⟩
      have hCL : CUR.length = l0 := by rw [hCUR, Array.length_toList, size_madeCells]; omega
      have HCUR := hide hCUR
      clear hCUR
      go_wp2_with (first
        | (at_make; refine wpList_make_full _ rfl _ _ 22 rfl w.heap.size 5 i0 (.int .u8 0) 1 Try.underlying22 hi hz0 hz1 _ _ _ _ l0 rfl rfl rfl rfl (by rw [hz2]; omega) (by unfold maxLen; omega) (Nat.le_refl _) ?_; intro w1 hown1 hgrow1; rw [← unhide HCUR] at hown1; have HB1 := hide (own_block hown1); clear hown1)
        | (refine wpList_copy_splice rfl (.tmp 28) (.tmp 29) 22 22 rfl 5 Try.underlying22 Try.size5 _ _ _ _ _ _ rfl rfl w.heap.size 0 CUR 5 (unhide HB1) CS (by rw [hlen]; simp) (fun _ => ⟨rfl, x, rfl, copy_src hz (unhide HCS) (unhide HC) hgrow1⟩) (by omega) (unhide HP2) w.heap.size w ((Below.refl _ _).grown hgrow1 (Nat.le_refl _) (fun k h => by cases h)) (Nat.le_refl _) ?_; intro w2 hg2 hb2; clear HB1))
      go_meet
      case rel => exact ⟨held_of_block (unhide HCS) (by omega) (unhide hg2) l0 hz, hb2⟩
  case rest =>
    obtain ⟨hA, hbw⟩ := hcut
    obtain ⟨wa, rfl⟩ : ∃ wa : World, wa = wc := ⟨_, rfl⟩
    have h1' : Came wa a1 l1 z1 := h1.below hbw
    clear h0 h1
    go_upto_if 33 with fail
    go_cut [1] (fun s w' => Held w' s z1 ∧ Below wa.heap.size wa w')
    case first =>
      rcases h1' with ⟨hz, ⟨rfl, hl⟩ | ⟨x, rfl, hc⟩⟩
      · have hz' : z1 = [] := List.eq_nil_of_length_eq_zero (by omega)
        subst hz'
        subst hl
        go_wp2
        go_meet
        case rel => exact ⟨.inl ⟨⟨_, rfl⟩, Nat.le_refl _⟩, Below.refl _ _⟩
      · obtain ⟨CS, hCS⟩ : ∃ CS, CS = z1.map (Value.int .u8) := ⟨_, rfl⟩
        have hlen : CS.length = l1 := by rw [hCS]; simpa using hz
        have HP2 : Hid (∀ v ∈ CS, v.oneCell' = true) := hide (by rw [hCS]; exact ints_oneCell _ _)
        have HCS := hide hCS
        have HC := hide hc
        clear hCS hc
        obtain ⟨CUR, hCUR⟩ : ∃ CUR, CUR = (madeCells (Value.cells (.int .u8 0)) (l1 * 1)).toList := ⟨_, rfl⟩
        have hCL : CUR.length = l1 := by rw [hCUR, Array.length_toList, size_madeCells]; omega
        have HCUR := hide hCUR
        clear hCUR
        go_wp2_with (first
          | (at_make; refine wpList_make_full _ rfl _ _ 22 rfl wa.heap.size 5 i0 (.int .u8 0) 1 Try.underlying22 hi hz0 hz1 _ _ _ _ l1 rfl rfl rfl rfl (by rw [hz2]; omega) (by unfold maxLen; omega) (Nat.le_refl _) ?_; intro w1 hown1 hgrow1; rw [← unhide HCUR] at hown1; have HB1 := hide (own_block hown1); clear hown1)
          | (refine wpList_copy_splice rfl (.tmp 37) (.tmp 38) 22 22 rfl 5 Try.underlying22 Try.size5 _ _ _ _ _ _ rfl rfl wa.heap.size 0 CUR 5 (unhide HB1) CS (by rw [hlen]; simp) (fun _ => ⟨rfl, x, rfl, copy_src hz (unhide HCS) (unhide HC) hgrow1⟩) (by omega) (unhide HP2) wa.heap.size wa ((Below.refl _ _).grown hgrow1 (Nat.le_refl _) (fun k h => by cases h)) (Nat.le_refl _) ?_; intro w2 hg2 hb2; clear HB1))
        go_meet
        case rel => exact ⟨held_of_block (unhide HCS) (by omega) (unhide hg2) l1 hz, hb2⟩
    case rest =>
      obtain ⟨hB, hbw2⟩ := hcut
      have hA' := hA.below hbw2
      have hbw3 : Below w.heap.size w wc := hbw.trans (hbw2.mono hbw.size)
      clear h1' hA hbw hbw2
      obtain ⟨wm, rfl⟩ : ∃ wm : World, wm = wc := ⟨_, rfl⟩
      obtain ⟨hn0, hn1⟩ := unhide Hn
      obtain ⟨la, hla⟩ : ∃ la, z0.length = la := ⟨_, rfl⟩
      obtain ⟨lb, hlb⟩ : ∃ lb, z1.length = lb := ⟨_, rfl⟩
      rw [hla] at hn0
      rw [hlb] at hn1
      have HDA := hide hA'
      have HDB := hide hB
      unfold Held at hA' hB
      rw [hla] at hA'
      rw [hlb] at hB
      have Hla := hide hla
      have Hlb := hide hlb
      clear hla hlb Hn hl0 hl1
      rcases hA' with ⟨⟨ca, rfl⟩, hn⟩ | ⟨ga, rfl, hga, hca⟩
      all_goals rcases hB with ⟨⟨cb, rfl⟩, hm⟩ | ⟨gb, rfl, hgb, hcb⟩
      all_goals try (have HA := hide hca; clear hca)
      all_goals try (have HB := hide hcb; clear hcb)
      all_goals
        go_wp2_with (at_make; refine wpList_make_own _ rfl _ _ 22 rfl wm.heap.size 5 i0 (.int .u8 0) 1 Try.underlying22 hi hz0 hz1 _ _ _ (la + lb) rfl rfl (by omega) (by rw [hz2]; omega) (by unfold maxLen; omega) (Nat.le_refl _) ?_)
        intro w0 hown0 hgrow0
        go_wp2
        go_loopw [7, 8] (fun v i wr => ∃ k : Nat, k ≤ la ∧ i = .int .i64 k ∧ v = .slice (some ⟨wm.heap.size, 0, none⟩) k (la + lb) ∧ wr.ownsRow wm.heap.size 5 1 (.slice (some ⟨wm.heap.size, 0, none⟩) k (la + lb)) k ((z0.take k).map (Value.int .u8)) ∧ Below wm.heap.size wm wr)
          (fun _ i _ => la - (intOf i).toNat)
        case atStart => exact ⟨0, Nat.zero_le _, rfl, rfl, hown0, (Below.refl _ _).grown hgrow0 (Nat.le_refl _) (fun k h => by cases h)⟩
        case round =>
          obtain ⟨k, hk, rfl, rfl, hown, hnx⟩ := hrel
          clear hown0 hgrow0
          by_cases hlt : k < la
          · first
              | (exfalso; omega)
              | (have hcx : wr.cell? ⟨ga, k, none⟩ = some (.int .u8 (z0.getD k 0)) := (hnx.cell (p := ⟨ga, k, none⟩) hga).trans (unhide HA k hlt)
                 go_wp2_with (at_builtin; refine wpList_append_fits _ rfl (.tmp 53) (.tmp 58) 22 rfl wm.heap.size 5 i0 1 Try.underlying22 hi hz1 wm.heap.size k (la + lb) _ rfl (hown.alloc _) ⟨wr.heap.size, 0, none⟩ 1 1 [.int .u8 (z0.getD k 0)] rfl rfl (cell_one_new _ _ _) (by intro u hu; simp at hu; subst hu; rfl) (by omega) ?_; intro w1 hown1 hgrow1)
                 rw [take_snoc_map z0 k (by rw [unhide Hla]; exact hlt)] at hown1
                 go_roundw
                 case rel => exact ⟨k + 1, by omega, by go_num, rfl, hown1, (hnx.alloc hnx.size _).grown hgrow1 (by simp; have := hnx.size; omega) (fun k hk => by cases hk; exact Nat.le_refl _)⟩
                 case measure => simp [intOf]; omega)
          · have hkl : la = k := by omega
            subst hkl
            have hown0 : wr.ownsRow wm.heap.size 5 1 (.slice (some ⟨wm.heap.size, 0, none⟩) la (la + lb)) (la + 0) ((z0 ++ z1.take 0).map (Value.int .u8)) := by
              rw [List.take_of_length_le (by rw [unhide Hla]; omega)] at hown
              simpa using hown
            have HO := hide hown0
            clear hown0 hown hlt hk
            obtain ⟨wl, rfl⟩ : ∃ wl : World, wl = wr := ⟨_, rfl⟩
            go_wp2
            go_loopw [7, 9] (fun v i wr => ∃ k : Nat, k ≤ lb ∧ i = .int .i64 k ∧ v = .slice (some ⟨wm.heap.size, 0, none⟩) (la + k) (la + lb) ∧ wr.ownsRow wm.heap.size 5 1 (.slice (some ⟨wm.heap.size, 0, none⟩) (la + k) (la + lb)) (la + k) ((z0 ++ z1.take k).map (Value.int .u8)) ∧ Below wm.heap.size wm wr)
              (fun _ i _ => lb - (intOf i).toNat)
            case atStart => exact ⟨0, Nat.zero_le _, rfl, rfl, unhide HO, hnx⟩
            case round =>
              obtain ⟨k, hk, rfl, rfl, hown, hnr⟩ := hrel
              clear HO hnx
              by_cases hlt : k < lb
              · first
                  | (exfalso; omega)
                  | (have hcx : wr.cell? ⟨gb, k, none⟩ = some (.int .u8 (z1.getD k 0)) := (hnr.cell (p := ⟨gb, k, none⟩) hgb).trans (unhide HB k hlt)
                     go_wp2_with (at_builtin; refine wpList_append_fits _ rfl (.tmp 66) (.tmp 71) 22 rfl wm.heap.size 5 i0 1 Try.underlying22 hi hz1 wm.heap.size (la + k) (la + lb) _ rfl (hown.alloc _) ⟨wr.heap.size, 0, none⟩ 1 1 [.int .u8 (z1.getD k 0)] rfl rfl (cell_one_new _ _ _) (by intro u hu; simp at hu; subst hu; rfl) (by omega) ?_; intro w1 hown1 hgrow1)
                     rw [List.map_append, List.append_assoc, take_snoc_map z1 k (by rw [unhide Hlb]; exact hlt), ← List.map_append] at hown1
                     go_roundw
                     case rel => exact ⟨k + 1, by omega, by go_num, rfl, hown1, (hnr.alloc hnr.size _).grown hgrow1 (by simp; have := hnr.size; omega) (fun k hk => by cases hk; exact Nat.le_refl _)⟩
                     case measure => simp [intOf]; omega)
              · have hkl : lb = k := by omega
                subst hkl
                have hsz : w.heap.size ≤ wr.heap.size := Nat.le_trans hbw3.size hnr.size
                have hbw4 : Below w.heap.size w wr := hbw3.trans (hnr.mono hbw3.size)
                rw [List.take_of_length_le (by rw [unhide Hlb]; omega)] at hown
                have HC := hide (head_of_own hown)
                have HA2 := hide ((unhide HDA).head.below hnr)
                have HB2 := hide ((unhide HDB).head.below hnr)
                obtain ⟨K, hK⟩ : ∃ K, kindHead (z0 ++ z1) = K := ⟨_, rfl⟩
                have HK := hide hK
                clear hK hown hlt hk
                go_upto_if 75 with fail
                go_cut [10] (fun s w' => s = .int .i64 K ∧ wr = w')
                case first =>
                  by_cases hn : la + lb = 0
                  · have hn' : ((la : Int) + (lb : Int) == 0) = true := by simp; omega
                    go_wp2
                    go_meet
                    case rel =>
                      have e : z0 ++ z1 = [] := List.eq_nil_of_length_eq_zero (by rw [List.length_append, unhide Hla, unhide Hlb]; exact hn)
                      exact ⟨by rw [← unhide HK, e]; rfl, rfl⟩
                  · have hn' : ((la : Int) + (lb : Int) == 0) = false := by simp; omega
                    have hcx : wr.cell? ⟨wm.heap.size, 0, none⟩ = some (.int .u8 ((z0 ++ z1).getD 0 0)) := by
                      obtain ⟨_, h | ⟨g, hg, _, hc⟩⟩ := unhide HC
                      · omega
                      · cases hg; exact hc
                    have HX : Hid (kindOf ((z0 ++ z1).getD 0 0) = K) := hide (by rw [← unhide HK]; exact head_getD (by rw [List.length_append, unhide Hla, unhide Hlb]; omega))
                    obtain ⟨x, hx⟩ : ∃ x, (z0 ++ z1).getD 0 0 = x := ⟨_, rfl⟩
                    rw [hx] at hcx HX
                    clear hx
                    go_wp2_with (go_at_call 6; refine (tag6_of _ _ _ HX).mono ?_; rintro e w' ⟨rfl, hw⟩; obtain rfl := hw.symm)
                    all_goals (go_meet; exact ⟨rfl, rfl⟩)
                case rest =>
                  obtain ⟨rfl, rfl⟩ := hcut
                  go_wp2_with fail
                  refine (new7 _ _ _ _).mono ?_
                  rintro e w1 ⟨rfl, hb1⟩
                  go_wp2_with fail
                  refine (kind8_head _ _ _ (z0 ++ z1) K _ ((unhide HC).below hb1) HK).mono ?_
                  rintro e w2 ⟨rfl, hb2⟩
                  have hb12 : Below wr.heap.size wr w2 := hb1.trans (hb2.mono hb1.size)
                  have hs2 := hb12.size
                  by_cases hp : 0 < la
                  · first
                      | (exfalso; omega)
                      | (have HKA : Hid (kindHead z0 = K) := hide (by rw [← unhide HK]; exact head_append_left (by rw [unhide Hla]; exact hp))
                         go_wp2_with fail
                         refine (new7 _ _ _ _).mono ?_
                         rintro e w3 ⟨rfl, hb3⟩
                         have hb13 : Below wr.heap.size wr w3 := hb12.trans (hb3.mono hb12.size)
                         go_wp2_with fail
                         refine (kind8_head _ _ _ z0 K _ ((unhide HA2).below hb13) HKA).mono ?_
                         rintro e w4 ⟨rfl, hb4⟩
                         have hb14 : Below wr.heap.size wr w4 := hb13.trans (hb4.mono hb13.size)
                         go_wp2
                         go_ret
                         exact ⟨rfl, hbw4.trans (hb14.mono hsz)⟩)
                  · have HKB : Hid (kindHead z1 = K) := hide (by rw [← unhide HK]; exact head_append_right (by rw [unhide Hla]; exact hp))
                    go_wp2_with fail
                    refine (new7 _ _ _ _).mono ?_
                    rintro e w3 ⟨rfl, hb3⟩
                    have hb13 : Below wr.heap.size wr w3 := hb12.trans (hb3.mono hb12.size)
                    go_wp2_with fail
                    refine (kind8_head _ _ _ z1 K _ ((unhide HB2).below hb13) HKB).mono ?_
                    rintro e w4 ⟨rfl, hb4⟩
                    have hb14 : Below wr.heap.size wr w4 := hb13.trans (hb4.mono hb13.size)
                    go_wp2
                    go_ret
                    exact ⟨rfl, hbw4.trans (hb14.mono hsz)⟩

set_option maxHeartbeats 400000 in
theorem joined_long (a0 a1 : Option Addr) (l0 c0 l1 c1 : Nat) (w : World) (h0 : l0 ≤ maxLen) (h1 : l1 ≤ maxLen) (h : ¬ (l0 ≤ 65536 ∧ l1 ≤ 65536)) :
    Calls Try.prog 3 #[.slice a0 l0 c0, .slice a1 l1 c1] w fun e w' => e = .returned (.bool true) ∧ Below w.heap.size w w' := by
  by_cases hs : l0 + l1 ≤ 1048576
  · have hc := bytes5_yes a0 a1 l0 c0 l1 c1 w hs
    have HC := hide hc
    clear hc
    go_enter Try.func3, Try.ntmps3
    go_wp2_with fail
    refine (unhide HC).mono ?_
    rintro e w' ⟨rfl, hw⟩
    obtain rfl := hw.symm
    by_cases hl0 : l0 ≤ 65536
    · have hl1 : ¬ l1 ≤ 65536 := fun h' => h ⟨hl0, h'⟩
      clear h
      go_upto_if 24 with fail
      all_goals (go_ret; exact ⟨rfl, Below.refl _ _⟩)
    · clear h
      go_upto_if 24 with fail
      all_goals (go_ret; exact ⟨rfl, Below.refl _ _⟩)
  · have HC := hide (bytes5_no a0 a1 l0 c0 l1 c1 w hs h0 h1)
    go_enter Try.func3, Try.ntmps3
    go_wp2_with fail
    refine (unhide HC).mono ?_
    rintro e w' ⟨rfl, hw⟩
    obtain rfl := hw.symm
    go_wp2_with fail
    all_goals (go_ret; exact ⟨rfl, Below.refl _ _⟩)

theorem joined_any (a0 a1 : Option Addr) (l0 c0 l1 c1 : Nat) (z0 z1 : List Int) (w : World) (h0 : Came w a0 l0 z0) (h1 : Came w a1 l1 z1) (hm0 : l0 ≤ maxLen) (hm1 : l1 ≤ maxLen) :
    Calls Try.prog 3 #[.slice a0 l0 c0, .slice a1 l1 c1] w fun e w' => e = .returned (.bool true) ∧ Below w.heap.size w w' := by
  by_cases h : l0 ≤ 65536 ∧ l1 ≤ 65536
  · exact joined_main a0 a1 l0 c0 l1 c1 z0 z1 w h0 h1 h.1 h.2
  · exact joined_long a0 a1 l0 c0 l1 c1 w hm0 hm1 h

end Go.Proofs.Qxb6628709a
