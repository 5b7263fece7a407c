/-
  zzjdToValue (function 7): the tree, built anew behind a pointer, in new memory.
-/
import Derived.Test.Qxb6630533aDoorFits
import Derived.Deep.DeepCutAuto
import Derived.Deep.RegionHeld3
namespace Go.Proofs.Qxb6630533aDoor
open Go.RowKit

theorem info28 : (Tryd.prog.info? 28).map (fun i => (i.zero, i.size, i.bytes)) = some (some (.pointer none), 1, 8) := by kernel_rfl
theorem info49 : (Tryd.prog.info? 49).map (fun i => (i.zero, i.size, i.bytes)) = some (some (.agg #[.string ⟨#[]⟩, .int .i64 0, .pointer none]), 3, 32) := by kernel_rfl

theorem own_block {w : World} {base : Nat} {e : TypeId} {g n k : Nat} {xs : List Value} (h : w.ownsRow base e k (.slice (some ⟨g, 0, none⟩) n n) n xs) : w.heap[g]? = some (.cells xs.toArray e (0, 0)) ∧ xs.length = n * k := by
  obtain ⟨hx, ⟨h', _⟩ | ⟨g', cap, cur, hv, _, hh, _, _, hs, ht⟩⟩ := h
  · cases h'
  · simp only [Value.slice.injEq, Option.some.injEq, Addr.mk.injEq, and_true, true_and] at hv
    obtain ⟨rfl, rfl⟩ := hv
    have e1 : cur.toList = xs := by rw [← ht, List.take_of_length_le (by simp; omega)]
    exact ⟨by rw [hh, ← e1], by omega⟩

/-- The first k elements of a row of pointers stand. -/
def PFilled {n : Nat} (w : World) (B : Nat) (ys : List Value) (k : Nat) (els : List (Tr n)) : Prop :=
  ∀ i x, i < k → els[i]? = some x → ∃ h, ys[i]? = some (.pointer (some ⟨h, 0, none⟩)) ∧ OutV w B n h x

theorem PFilled.keep {n : Nat} {w w' : World} {B : Nat} {ys : List Value} {k : Nat} {els : List (Tr n)} (h : PFilled w B ys k els) (hf : From B w w') : PFilled w' B ys k els := fun i x hi hx => by
  obtain ⟨p, h1, h2⟩ := h i x hi hx
  exact ⟨p, h1, OutV.keep hf n p x h2⟩

theorem PFilled.set {n : Nat} {w : World} {B : Nat} {ys : List Value} {k p : Nat} {els : List (Tr n)} {e : Tr n} (h : PFilled w B ys k els) (he : els[k]? = some e) (hk : k < ys.length) (hp : OutV w B n p e) :
    PFilled w B (ys.set k (.pointer (some ⟨p, 0, none⟩))) (k + 1) els := fun i x hi hx => by
  by_cases e1 : i = k
  · subst e1
    rw [he] at hx
    obtain rfl := Option.some.inj hx
    exact ⟨p, by rw [List.getElem?_set_self hk], hp⟩
  · obtain ⟨q, h1, h2⟩ := h i x (by omega) hx
    exact ⟨q, by rw [List.getElem?_set_ne (by omega)]; exact h1, h2⟩

/-- A row of pointers that stands whole. -/
theorem PFilled.row {n : Nat} {w : World} {B E : Nat} {ys : List Value} {els : List (Tr n)} {len : Nat} {t : TypeId} (h : PFilled w (E + 1) ys len els) (hE : w.heap[E]? = some (.cells ys.toArray t (0, 0))) (hl : els.length = len) (hB : B ≤ E) :
    Rw w B 1 (fun cs x => ∃ h, cs = [.pointer (some ⟨h, 0, none⟩)] ∧ OutV w B n h x) (some ⟨E, 0, none⟩) len els := by
  refine ⟨hl, .inr ⟨E, 0, rfl, hB, lt_of_block hE, fun i x hx => ?_⟩⟩
  have hi : i < len := by have := (List.getElem?_eq_some_iff.1 hx).1; omega
  obtain ⟨p, h1, h2⟩ := h i x hi hx
  refine ⟨[.pointer (some ⟨p, 0, none⟩)], rfl, fun j hj => ?_, p, rfl, OutV.mono (by omega) n p x h2⟩
  have hj0 : j = 0 := by simpa using hj
  subst hj0
  rw [cell_of_row _ _ _ _ _ _ hE]
  simpa using h1

/-- The first k members of a row stand. -/
def MFilled {n : Nat} (w : World) (B : Nat) (ys : List Value) (k : Nat) (mem : List (MemF (Tr n))) : Prop :=
  ∀ i m, i < k → mem[i]? = some m → ∃ h, ys[i * 3]? = some (.string m.name) ∧ ys[i * 3 + 1]? = some (.int .i64 m.off) ∧ ys[i * 3 + 2]? = some (.pointer (some ⟨h, 0, none⟩)) ∧ OutV w B n h m.val

theorem MFilled.keep {n : Nat} {w w' : World} {B : Nat} {ys : List Value} {k : Nat} {mem : List (MemF (Tr n))} (h : MFilled w B ys k mem) (hf : From B w w') : MFilled w' B ys k mem := fun i x hi hx => by
  obtain ⟨p, h0, h1, h2, h3⟩ := h i x hi hx
  exact ⟨p, h0, h1, h2, OutV.keep hf n p x.val h3⟩

theorem MFilled.set {n : Nat} {w : World} {B : Nat} {ys : List Value} {k p len : Nat} {mem : List (MemF (Tr n))} {m : MemF (Tr n)} (h : MFilled w B ys k mem) (he : mem[k]? = some m) (hy : ys.length = len * 3) (hk : k < len) (hp : OutV w B n p m.val) :
    MFilled w B (((ys.set (k * 3) (.string m.name)).set (k * 3 + 1) (.int .i64 m.off)).set (k * 3 + 2) (.pointer (some ⟨p, 0, none⟩))) (k + 1) mem := fun i x hi hx => by
  by_cases e1 : i = k
  · subst e1
    rw [he] at hx
    obtain rfl := Option.some.inj hx
    refine ⟨p, ?_, ?_, ?_, hp⟩
    · rw [List.getElem?_set_ne (by omega), List.getElem?_set_ne (by omega), List.getElem?_set_self (by omega)]
    · rw [List.getElem?_set_ne (by omega), List.getElem?_set_self (by simp; omega)]
    · rw [List.getElem?_set_self (by simp; omega)]
  · obtain ⟨q, h0, h1, h2, h3⟩ := h i x (by omega) hx
    refine ⟨q, ?_, ?_, ?_, h3⟩
    · rw [List.getElem?_set_ne (by omega), List.getElem?_set_ne (by omega), List.getElem?_set_ne (by omega)]; exact h0
    · rw [List.getElem?_set_ne (by omega), List.getElem?_set_ne (by omega), List.getElem?_set_ne (by omega)]; exact h1
    · rw [List.getElem?_set_ne (by omega), List.getElem?_set_ne (by omega), List.getElem?_set_ne (by omega)]; exact h2

theorem MFilled.row {n : Nat} {w : World} {B E : Nat} {ys : List Value} {mem : List (MemF (Tr n))} {len : Nat} {t : TypeId} (h : MFilled w (E + 1) ys len mem) (hE : w.heap[E]? = some (.cells ys.toArray t (0, 0))) (hl : mem.length = len) (hB : B ≤ E) :
    Rw w B 3 (fun cs m => ∃ h, cs = [.string m.name, .int .i64 m.off, .pointer (some ⟨h, 0, none⟩)] ∧ OutV w B n h m.val) (some ⟨E, 0, none⟩) len mem := by
  refine ⟨hl, .inr ⟨E, 0, rfl, hB, lt_of_block hE, fun i x hx => ?_⟩⟩
  have hi : i < len := by have := (List.getElem?_eq_some_iff.1 hx).1; omega
  obtain ⟨p, h0, h1, h2, h3⟩ := h i x hi hx
  refine ⟨[.string x.name, .int .i64 x.off, .pointer (some ⟨p, 0, none⟩)], rfl, fun j hj => ?_, p, rfl, OutV.mono (by omega) n p x.val h3⟩
  have hj3 : j < 3 := by simpa using hj
  rw [cell_of_row _ _ _ _ _ _ hE]
  obtain rfl | rfl | rfl : j = 0 ∨ j = 1 ∨ j = 2 := by omega
  · simpa using h0
  · simpa using h1
  · simpa using h2

/-- Half-way: the node's box as it was, the new Value with its elements. -/
def Mid7 {n : Nat} (w : World) (kind off fin : Int) (ea : Option Addr) (el ec : Nat) (ma : Option Addr) (ml mc : Nat) (els : List (Tr n)) (wc : World) : Prop :=
  wc.heap[w.heap.size]? = some (.cells #[.int .u8 kind, .int .i64 off, .int .i64 fin, .slice ea el ec, .slice ma ml mc] 25 (0, 0)) ∧
  (∃ ea' ec', wc.heap[w.heap.size + 1]? = some (.cells #[.int .u8 kind, .int .i64 off, .int .i64 fin, .bool false, .string ⟨#[]⟩, .string ⟨#[]⟩, .slice ea' el ec', .slice none 0 0] 47 (0, 0)) ∧
    Rw wc (w.heap.size + 2) 1 (fun cs x => ∃ h, cs = [.pointer (some ⟨h, 0, none⟩)] ∧ OutV wc (w.heap.size + 2) n h x) ea' el els) ∧
  Below w.heap.size w wc

theorem far3 {w : World} {E i j k g o : Nat} {a b c : Value} (h : E ≠ g) : (((w.setCell ⟨E, i, none⟩ a).setCell ⟨E, j, none⟩ b).setCell ⟨E, k, none⟩ c).cell? ⟨g, o, none⟩ = w.cell? ⟨g, o, none⟩ := by
  rw [World.cell?_of_block (heap_setCell_other _ _ _ _ (Ne.symm h)), World.cell?_of_block (heap_setCell_other _ _ _ _ (Ne.symm h)), World.cell?_of_block (heap_setCell_other _ _ _ _ (Ne.symm h))]

theorem row3 {w : World} {E k len : Nat} {ys : List Value} {t : TypeId} (h : w.heap[E]? = some (.cells ys.toArray t (0, 0))) (hy : ys.length = len * 3) (hk : k < len) :
    ((∃ v, w.cell? ⟨E, k * 3, none⟩ = some v) ∧ (∃ v, w.cell? ⟨E, k * 3 + 1, none⟩ = some v) ∧ (∃ v, w.cell? ⟨E, k * 3 + 2, none⟩ = some v)) ∧
    w.frozen? ⟨E, k * 3, none⟩ = false ∧ w.frozen? ⟨E, k * 3 + 1, none⟩ = false ∧ w.frozen? ⟨E, k * 3 + 2, none⟩ = false := by
  refine ⟨⟨⟨ys[k * 3]'(by omega), ?_⟩, ⟨ys[k * 3 + 1]'(by omega), ?_⟩, ⟨ys[k * 3 + 2]'(by omega), ?_⟩⟩, frozen_of_row _ _ _ _ _ h, frozen_of_row _ _ _ _ _ h, frozen_of_row _ _ _ _ _ h⟩
  all_goals (rw [cell_of_row _ _ _ _ _ _ h]; simp)

set_option maxHeartbeats 8000000 in
set_option maxRecDepth 100000 in
theorem toval7 : ∀ (n : Nat) (cs : List Value) (t : Tr n) (w : World), InN w 0 n cs t → weight n t ≤ 1048576 →
    Calls Tryd.prog 7 #[.agg cs.toArray] w fun e w' => ∃ g, e = .returned (.pointer (some ⟨g, 0, none⟩)) ∧ OutV w' w.heap.size n g t ∧ Below w.heap.size w w' := by
  intro n
  induction n with
  | zero => intro cs t w h; exact h.elim
  | succ n ih =>
    rintro cs t w ⟨ea, el, ec, ma, ml, mc, rfl, _, ⟨hna, hnm, _, _⟩, hE, hM⟩ hwt
    obtain ⟨kind, off, fin, els, mem⟩ := (t : TrF (Tr n))
    simp only at hE hM
    have hel : el ≤ 1048576 := by have := weight_els (n := n) ⟨kind, off, fin, els, mem⟩; have := hE.1; simp only at *; omega
    have hml : ml ≤ 1048576 := by have := weight_mem (n := n) ⟨kind, off, fin, els, mem⟩; have := hM.1; simp only at *; omega
    obtain ⟨i28, hi28, hz0, hz1, hz2⟩ := info_parts info28
    obtain ⟨i49, hi49, hy0, hy1, hy2⟩ := info_parts info49
    have HE := hide hE
    have HM := hide hM
    have IH := hide ih
    have HWT := hide hwt
    have HNA := hide hna
    have HNM := hide hnm
    have hneqE := fun (w : World) (a : Option Addr) (n c : Nat) => run_neq_slice_nil_any (P := Tryd.prog) w 22 25 a n c 0 0 Tryd.underlying22
    have hneqM := fun (w : World) (a : Option Addr) (n c : Nat) => run_neq_slice_nil_any (P := Tryd.prog) w 23 41 a n c 0 0 Tryd.underlying23
    clear hE hM ih hwt hna hnm
    go_enter Tryd.func7, Tryd.ntmps7
    go_upto_if 18 with fail
    obtain ⟨W0, hW0⟩ : ∃ W0, W0 = (w.alloc (.cells #[.int .u8 kind, .int .i64 off, .int .i64 fin, .slice ea el ec, .slice ma ml mc] 25)).alloc (.cells #[.int .u8 kind, .int .i64 off, .int .i64 fin, .bool false, .string ⟨#[]⟩, .string ⟨#[]⟩, .slice none 0 0, .slice none 0 0] 47) := ⟨_, rfl⟩
    rw [← hW0]
    have HN0 : Hid (W0.heap[w.heap.size]? = some (.cells #[.int .u8 kind, .int .i64 off, .int .i64 fin, .slice ea el ec, .slice ma ml mc] 25 (0, 0))) := hide (by rw [hW0]; exact heap_alloc2_old _ _ _)
    have HV0 : Hid (W0.heap[w.heap.size + 1]? = some (.cells #[.int .u8 kind, .int .i64 off, .int .i64 fin, .bool false, .string ⟨#[]⟩, .string ⟨#[]⟩, .slice none 0 0, .slice none 0 0] 47 (0, 0))) := hide (by rw [hW0]; exact heap_alloc2_new _ _ _)
    have HS0 : Hid (W0.heap.size = w.heap.size + 2) := hide (by rw [hW0]; simp)
    have HBW0 : Hid (Below w.heap.size w W0) := hide (by rw [hW0]; exact ((Below.refl _ _).alloc (Nat.le_refl _) _).alloc (by simp) _)
    clear hW0
    go_cut [1, 3] (fun s1 s3 wc => s1 = .pointer (some ⟨w.heap.size, 0, none⟩) ∧ s3 = .pointer (some ⟨w.heap.size + 1, 0, none⟩) ∧ Mid7 w kind off fin ea el ec ma ml mc els wc)
    case first =>
      cases ea with
      | none =>
        have HEL0 := hide (unhide HNA rfl)
        go_wp2_with fail
        go_meet
        case rel =>
          refine ⟨rfl, rfl, unhide HN0, ⟨none, 0, ?_, ?_⟩, unhide HBW0⟩
          · rw [unhide HEL0]; exact unhide HV0
          · exact ⟨(unhide HE).1, .inl (unhide HEL0)⟩
      | some ad =>
        obtain ⟨b0, b1, b2, b3, b4⟩ := cell5 (cells_of_block (cs := [_, _, _, _, _]) (unhide HN0))
        simp only [Nat.zero_add] at b0 b1 b2 b3 b4
        go_wp2_with (at_make; refine wpList_make_full _ rfl _ _ 44 rfl W0.heap.size 28 i28 (.pointer none) 1 Tryd.underlying44 hi28 hz0 hz1 _ _ _ _ el rfl rfl rfl rfl (by rw [hz2]; omega) (by unfold maxLen; omega) (Nat.le_refl _) ?_; intro w1 hown1 hgrow1)
        clear b0 b1 b2 b3 b4
        go_loopw [5] (fun i wr => ∃ (k : Nat) (ys : List Value), k ≤ el ∧ i = .int .i64 k ∧ wr.heap[W0.heap.size]? = some (.cells ys.toArray 28 (0, 0)) ∧ ys.length = el ∧ PFilled wr (W0.heap.size + 1) ys k els ∧ Below W0.heap.size W0 wr) (fun i _ => el - (intOf i).toNat)
        case atStart =>
          obtain ⟨hb, hy⟩ := own_block hown1
          exact ⟨0, _, Nat.zero_le _, rfl, hb, by omega, fun i s hi => absurd hi (by omega), (Below.refl _ _).grown hgrow1 (Nat.le_refl _) (fun k h => by cases h)⟩
        case round =>
          obtain ⟨k, ys, hk, rfl, hG, hy, hf, hbw⟩ := hrel
          have HG := hide hG
          have HF := hide hf
          have HY := hide hy
          have hGz : W0.heap.size < wr.heap.size := lt_of_block hG
          have hbw' : Below w.heap.size w wr := (unhide HBW0).trans (hbw.mono (unhide HBW0).size)
          clear hG hf hown1 hgrow1 hy
          obtain ⟨b0, b1, b2, b3, b4⟩ := cell5 ((cells_of_block (cs := [_, _, _, _, _]) (unhide HN0)).keep (From.of_below (B := 0) hbw) (Nat.zero_le _) (by rw [unhide HS0]; omega))
          simp only [Nat.zero_add] at b0 b1 b2 b3 b4
          by_cases hlt : k < el
          · obtain ⟨hl, h | ⟨g, o, hx, _, hg, hc⟩⟩ := unhide HE
            · exact absurd h (by omega)
            obtain rfl := Option.some.inj hx
            obtain ⟨e, he⟩ : ∃ e, els[k]? = some e := ⟨els[k]'(by omega), by simp⟩
            obtain ⟨cs, hcl, hcc, hin⟩ := hc k e he
            have hccr := hcc.keep (From.of_below (B := 0) hbw') (Nat.zero_le _) hg
            have HIN := hide (InN.keep (From.of_below hbw') n cs e hin)
            have HEL := hide he
            have HWE : Hid (weight n e ≤ 1048576) := hide (by have h1 := weight_el (n := n) ⟨kind, off, fin, els, mem⟩ e (List.mem_of_getElem? he); have h2 := unhide HWT; omega)
            clear hc hcc hin he hl hx
            match cs, hcl with
            | [x0, x1, x2, x3, x4], _ =>
              obtain ⟨c0, c1, c2, c3, c4⟩ := cell5 hccr
              clear hccr
              go_wp2_with fail
              refine (unhide IH [x0, x1, x2, x3, x4] e _ (unhide HIN) (unhide HWE)).mono ?_
              rintro e1 w2 ⟨p, rfl, hov, hb2⟩
              have hb02 : Below W0.heap.size W0 w2 := hbw.trans (hb2.mono hbw.size)
              have HG2 : Hid (w2.heap[W0.heap.size]? = some (.cells ys.toArray 28 (0, 0))) := hide ((hb2.block _ hGz).trans (unhide HG))
              have HF2 := hide ((unhide HF).keep (From.of_below hb2))
              have HOV := hide (OutV.mono (B' := W0.heap.size + 1) (by omega) n p e hov)
              clear c0 c1 c2 c3 c4 b0 b1 b2 b3 b4 hov
              obtain ⟨v0, d0⟩ : ∃ v, w2.cell? ⟨W0.heap.size, k, none⟩ = some v := ⟨ys[k]'(by have := unhide HY; omega), by rw [cell_of_row _ _ _ _ _ _ (unhide HG2)]; simp⟩
              have f0 : w2.frozen? ⟨W0.heap.size, k, none⟩ = false := frozen_of_row _ _ _ _ _ (unhide HG2)
              go_wp2_with fail
              go_roundw
              case rel =>
                have hkeep : From (W0.heap.size + 1) w2 (w2.setCell ⟨W0.heap.size, k, none⟩ (.pointer (some ⟨p, 0, none⟩))) := From.setCell w2 (p := ⟨W0.heap.size, k, none⟩) (by simp) _
                refine ⟨k + 1, ys.set k (.pointer (some ⟨p, 0, none⟩)), by omega, by go_num, ?_, by have := unhide HY; simpa using this, ?_, hb02.setCell (p := ⟨W0.heap.size, k, none⟩) (Nat.le_refl _) _⟩
                · rw [heap_setCell_same _ _ _ _ _ _ (unhide HG2)]; simp
                · exact ((unhide HF2).keep hkeep).set (unhide HEL) (by have := unhide HY; omega) (OutV.keep hkeep n p e (unhide HOV))
              case measure => simp [intOf]; omega
          · have hkl : el = k := by omega
            subst hkl
            have HV1 : Hid (wr.heap[w.heap.size + 1]? = some (.cells #[.int .u8 kind, .int .i64 off, .int .i64 fin, .bool false, .string ⟨#[]⟩, .string ⟨#[]⟩, .slice none 0 0, .slice none 0 0] 47 (0, 0))) := hide ((hbw.block _ (by rw [unhide HS0]; omega)).trans (unhide HV0))
            have HN1 := hide ((hbw.block w.heap.size (by rw [unhide HS0]; omega)).trans (unhide HN0))
            have v6 : wr.cell? ⟨w.heap.size + 1, 6, none⟩ = some (.slice none 0 0) := by rw [cell_of_row _ _ _ _ _ _ (unhide HV1)]; rfl
            have f6 : wr.frozen? ⟨w.heap.size + 1, 6, none⟩ = false := frozen_of_row _ _ _ _ _ (unhide HV1)
            clear hk
            go_wp2_with fail
            go_meet
            case rel =>
              have hkeep : From (w.heap.size + 2) wr (wr.setCell ⟨w.heap.size + 1, 6, none⟩ (.slice (some ⟨W0.heap.size, 0, none⟩) el el)) := From.setCell wr (p := ⟨w.heap.size + 1, 6, none⟩) (by simp) _
              have hrow := (unhide HF).row (B := w.heap.size + 2) (unhide HG) (unhide HE).1 (by rw [unhide HS0]; omega)
              refine ⟨rfl, rfl, ?_, ⟨some ⟨W0.heap.size, 0, none⟩, el, ?_, ?_⟩, hbw'.setCell (p := ⟨w.heap.size + 1, 6, none⟩) (by simp) _⟩
              · rw [heap_setCell_other _ _ _ _ (by simp)]; exact unhide HN1
              · rw [heap_setCell_same _ _ _ _ _ _ (unhide HV1)]; rfl
              · exact hrow.keep hkeep (fun cs x ⟨h, a, c⟩ => ⟨h, a, OutV.keep hkeep n h x c⟩)
    case rest =>
      obtain ⟨rfl, rfl, hN, ⟨ea', ec', hV, hRE⟩, hbwc⟩ := hcut
      obtain ⟨W1, rfl⟩ : ∃ W1 : World, W1 = wc := ⟨_, rfl⟩
      have HN1 := hide hN
      have HV1 := hide hV
      have HRE := hide hRE
      have HBW1 := hide hbwc
      have hV1z : w.heap.size + 1 < W1.heap.size := lt_of_block hV
      clear hN hV hRE hbwc HN0 HV0 HBW0 HS0 HE HNA W0
      obtain ⟨b0, b1, b2, b3, b4⟩ := cell5 (cells_of_block (cs := [_, _, _, _, _]) (unhide HN1))
      simp only [Nat.zero_add] at b0 b1 b2 b3 b4
      cases ma with
      | none =>
        have HML0 := hide (unhide HNM rfl)
        go_wp2_with fail
        go_ret
        refine ⟨w.heap.size + 1, rfl, ?_, unhide HBW1⟩
        refine ⟨by omega, hV1z, false, ⟨#[]⟩, ⟨#[]⟩, ea', el, ec', none, ml, 0, ?_, (unhide HRE).mono (by omega) (fun cs x ⟨h, a, c⟩ => ⟨h, a, OutV.mono (by omega) n h x c⟩), ⟨(unhide HM).1, .inl (unhide HML0)⟩⟩
        rw [unhide HML0]
        exact cells_of_block (unhide HV1)
      | some ad =>
        go_wp2_with (at_make; refine wpList_make_full _ rfl _ _ 45 rfl W1.heap.size 49 i49 _ 3 Tryd.underlying45 hi49 hy0 hy1 _ _ _ _ ml rfl rfl rfl rfl (by rw [hy2]; omega) (by unfold maxLen; omega) (Nat.le_refl _) ?_; intro w1 hown1 hgrow1)
        clear b0 b1 b2 b3 b4
        go_loopw [7] (fun i wr => ∃ (k : Nat) (ys : List Value), k ≤ ml ∧ i = .int .i64 k ∧ wr.heap[W1.heap.size]? = some (.cells ys.toArray 49 (0, 0)) ∧ ys.length = ml * 3 ∧ MFilled wr (W1.heap.size + 1) ys k mem ∧ Below W1.heap.size W1 wr) (fun i _ => ml - (intOf i).toNat)
        case atStart =>
          obtain ⟨hb, hy⟩ := own_block hown1
          exact ⟨0, _, Nat.zero_le _, rfl, hb, by omega, fun i s hi => absurd hi (by omega), (Below.refl _ _).grown hgrow1 (Nat.le_refl _) (fun k h => by cases h)⟩
        case round =>
          obtain ⟨k, ys, hk, rfl, hG, hy, hf, hbw⟩ := hrel
          have HG := hide hG
          have HF := hide hf
          have HY := hide hy
          have hGz : W1.heap.size < wr.heap.size := lt_of_block hG
          have hbw' : Below w.heap.size w wr := (unhide HBW1).trans (hbw.mono (unhide HBW1).size)
          clear hG hf hown1 hgrow1 hy
          obtain ⟨b0, b1, b2, b3, b4⟩ := cell5 ((cells_of_block (cs := [_, _, _, _, _]) (unhide HN1)).keep (From.of_below (B := 0) hbw) (Nat.zero_le _) (by omega))
          simp only [Nat.zero_add] at b0 b1 b2 b3 b4
          by_cases hlt : k < ml
          · obtain ⟨hl, h | ⟨g, o, hx, _, hg, hc⟩⟩ := unhide HM
            · exact absurd h (by omega)
            obtain rfl := Option.some.inj hx
            obtain ⟨m, hm⟩ : ∃ m, mem[k]? = some m := ⟨mem[k]'(by omega), by simp⟩
            obtain ⟨cs, hcl, hcc, rr, hcs, hmo, hin⟩ := hc k m hm
            have hccr := hcc.keep (From.of_below (B := 0) hbw') (Nat.zero_le _) hg
            have HIN := hide (InN.keep (From.of_below hbw'.drew) n rr m.val hin)
            have HME := hide hm
            have HWE : Hid (weight n m.val ≤ 1048576) := hide (by have h1 := weight_me (n := n) ⟨kind, off, fin, els, mem⟩ m (List.mem_of_getElem? hm); have h2 := unhide HWT; omega)
            subst hcs
            clear hc hcc hin hm hl hx hmo
            obtain ⟨mname, moff, mval⟩ := m
            have hcl5 : rr.length = 5 := by simpa using hcl
            clear hcl
            match rr, hcl5 with
            | [x0, x1, x2, x3, x4], _ =>
              obtain ⟨c0, c1, d0, d1, d2, d3, d4⟩ := cell7 hccr
              have i0 : (0 : Int) ≤ (k : Int) := by omega
              have i1 : (k : Int) < (ml : Int) := by omega
              have zw : w.heap.size < wr.heap.size := by omega
              have zg : g < wr.heap.size := by omega
              have ne1 : W1.heap.size ≠ w.heap.size := by omega
              have ne2 : W1.heap.size ≠ g := by have := (unhide HBW1).size; omega
              clear hccr b0 b1 b2 b3
              go_wp2_with fail
              go_region_held3 (fun w' => w'.cell? ⟨w.heap.size, 4, none⟩ = some (.slice (some ⟨g, o, none⟩) ml mc) ∧ w'.cell? ⟨g, o + k * 7, none⟩ = some (.string mname) ∧ w'.cell? ⟨g, o + k * 7 + 1, none⟩ = some (.int .i64 moff) ∧ w'.cell? ⟨g, o + k * 7 + 2, none⟩ = some x0 ∧ w'.cell? ⟨g, o + k * 7 + 2 + 1, none⟩ = some x1 ∧ w'.cell? ⟨g, o + k * 7 + 2 + 2, none⟩ = some x2 ∧ w'.cell? ⟨g, o + k * 7 + 2 + 3, none⟩ = some x3 ∧ w'.cell? ⟨g, o + k * 7 + 2 + 4, none⟩ = some x4) (first | (exact ⟨y0, y1, y2, y3, y4, y5, y6, y7⟩) | (exact ⟨(far3 ne1).trans y0, (far3 ne2).trans y1, (far3 ne2).trans y2, (far3 ne2).trans y3, (far3 ne2).trans y4, (far3 ne2).trans y5, (far3 ne2).trans y6, (far3 ne2).trans y7⟩) | go_keep)
                (first | (go_at_call 7; refine (unhide IH [x0, x1, x2, x3, x4] mval _ (unhide HIN) (unhide HWE)).mono ?_; rintro e1 w2 ⟨p, rfl, hov, hb2⟩; have y0 := (hb2.cell (p := ⟨w.heap.size, 4, none⟩) zw).trans b4; have y1 := (hb2.cell (p := ⟨g, o + k * 7, none⟩) zg).trans c0; have y2 := (hb2.cell (p := ⟨g, o + k * 7 + 1, none⟩) zg).trans c1; have y3 := (hb2.cell (p := ⟨g, o + k * 7 + 2, none⟩) zg).trans d0; have y4 := (hb2.cell (p := ⟨g, o + k * 7 + 2 + 1, none⟩) zg).trans d1; have y5 := (hb2.cell (p := ⟨g, o + k * 7 + 2 + 2, none⟩) zg).trans d2; have y6 := (hb2.cell (p := ⟨g, o + k * 7 + 2 + 3, none⟩) zg).trans d3; have y7 := (hb2.cell (p := ⟨g, o + k * 7 + 2 + 4, none⟩) zg).trans d4; have HG2 : Hid (w2.heap[W1.heap.size]? = some (.cells ys.toArray 49 (0, 0))) := hide ((hb2.block _ hGz).trans (unhide HG)); obtain ⟨⟨⟨q0, r0⟩, ⟨q1, r1⟩, ⟨q2, r2⟩⟩, f0, f1, f2⟩ := row3 (k := k) (unhide HG2) (unhide HY) hlt))
              go_wp2_with fail
              go_roundw
              case rel =>
                have hbd : Below wr.heap.size wr w2 := ((Below.refl _ wr).drew).trans hb2
                have hk1 : From (W1.heap.size + 1) w2 (w2.setCell ⟨W1.heap.size, k * 3, none⟩ (.string mname)) := From.setCell w2 (p := ⟨W1.heap.size, k * 3, none⟩) (by simp) _
                have hk2 := hk1.trans (From.setCell (w2.setCell ⟨W1.heap.size, k * 3, none⟩ (.string mname)) (p := ⟨W1.heap.size, k * 3 + 1, none⟩) (by simp) (.int .i64 moff))
                have hk3 := hk2.trans (From.setCell ((w2.setCell ⟨W1.heap.size, k * 3, none⟩ (.string mname)).setCell ⟨W1.heap.size, k * 3 + 1, none⟩ (.int .i64 moff)) (p := ⟨W1.heap.size, k * 3 + 2, none⟩) (by simp) (.pointer (some ⟨p, 0, none⟩)))
                have hov' := OutV.mono (B' := W1.heap.size + 1) (show W1.heap.size + 1 ≤ wr.heap.size by omega) n p mval hov
                have hf2 := ((unhide HF).keep (From.of_below hbd)).keep hk3
                refine ⟨k + 1, _, by omega, by go_num, ?_, ?_, hf2.set (unhide HME) (unhide HY) hlt (OutV.keep hk3 n p mval hov'), (((hbw.trans (hbd.mono hbw.size)).setCell (p := ⟨W1.heap.size, k * 3, none⟩) (Nat.le_refl _) _).setCell (p := ⟨W1.heap.size, k * 3 + 1, none⟩) (Nat.le_refl _) _).setCell (p := ⟨W1.heap.size, k * 3 + 2, none⟩) (Nat.le_refl _) _⟩
                · have e1 := heap_setCell_same w2 W1.heap.size (k * 3) ys.toArray 49 (.string mname) (unhide HG2)
                  have e2 := heap_setCell_same _ W1.heap.size (k * 3 + 1) _ 49 (.int .i64 moff) e1
                  have e3 := heap_setCell_same _ W1.heap.size (k * 3 + 2) _ 49 (.pointer (some ⟨p, 0, none⟩)) e2
                  rw [e3]; simp
                · have := unhide HY; simpa using this
              case measure => simp [intOf]; omega
          · have hkl : ml = k := by omega
            subst hkl
            have HV2 : Hid (wr.heap[w.heap.size + 1]? = some (.cells #[.int .u8 kind, .int .i64 off, .int .i64 fin, .bool false, .string ⟨#[]⟩, .string ⟨#[]⟩, .slice ea' el ec', .slice none 0 0] 47 (0, 0))) := hide ((hbw.block _ hV1z).trans (unhide HV1))
            have v7 : wr.cell? ⟨w.heap.size + 1, 7, none⟩ = some (.slice none 0 0) := by rw [cell_of_row _ _ _ _ _ _ (unhide HV2)]; rfl
            have f7 : wr.frozen? ⟨w.heap.size + 1, 7, none⟩ = false := frozen_of_row _ _ _ _ _ (unhide HV2)
            clear hk
            go_wp2_with fail
            go_ret
            have hkeep : From (w.heap.size + 2) wr (wr.setCell ⟨w.heap.size + 1, 7, none⟩ (.slice (some ⟨W1.heap.size, 0, none⟩) ml ml)) := From.setCell wr (p := ⟨w.heap.size + 1, 7, none⟩) (by simp) _
            have hrow := (unhide HF).row (B := w.heap.size + 2) (unhide HG) (unhide HM).1 (by omega)
            have hre := (unhide HRE).keep (From.of_below hbw) (fun cs x ⟨h, a, c⟩ => (⟨h, a, OutV.keep (From.of_below hbw) n h x c⟩ : ∃ h, cs = [Value.pointer (some ⟨h, 0, none⟩)] ∧ OutV wr (w.heap.size + 2) n h x))
            refine ⟨w.heap.size + 1, rfl, ?_, hbw'.setCell (p := ⟨w.heap.size + 1, 7, none⟩) (by simp) _⟩
            refine ⟨by omega, by simp [World.setCell]; omega, false, ⟨#[]⟩, ⟨#[]⟩, ea', el, ec', some ⟨W1.heap.size, 0, none⟩, ml, ml, ?_, ?_, ?_⟩
            · refine cells_of_block (t := 47) (fr := (0, 0)) ?_
              rw [heap_setCell_same _ _ _ _ _ _ (unhide HV2)]; rfl
            · exact (hre.keep hkeep (fun cs x ⟨h, a, c⟩ => (⟨h, a, OutV.keep hkeep n h x c⟩ : ∃ h, cs = [Value.pointer (some ⟨h, 0, none⟩)] ∧ OutV _ (w.heap.size + 2) n h x))).mono (by omega) (fun cs x ⟨h, a, c⟩ => ⟨h, a, OutV.mono (by omega) n h x c⟩)
            · exact (hrow.keep hkeep (fun cs m ⟨h, a, c⟩ => (⟨h, a, OutV.keep hkeep n h m.val c⟩ : ∃ h, cs = [Value.string m.name, .int .i64 m.off, .pointer (some ⟨h, 0, none⟩)] ∧ OutV _ (w.heap.size + 2) n h m.val))).mono (by omega) (fun cs m ⟨h, a, c⟩ => ⟨h, a, OutV.mono (by omega) n h m.val c⟩)

end Go.Proofs.Qxb6630533aDoor
