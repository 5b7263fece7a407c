/-
  THE CALLEES' CONTRACTS of seat b6630572aF, the small ones: the counts of bytes, zzConv, zzHasID.
-/
import Derived.Test.Qxb6630572aFmtProg
import Derived.WalkKit
import Derived.WalkSpells
import Derived.WalkLawsBesides
import Derived.Deep.DeepCutAuto
import Derived.Deep.Light
namespace Go.Proofs.Qxb6630572aFmt
open Go.RowKit

theorem hide {p : Prop} (h : p) : Hid p := h
theorem unhide {p : Prop} (h : Hid p) : p := h

/-- A site. -/
structure St where
  id : Int
  a : ByteArray
  b : ByteArray

/-- Three cells from an address on hold a site. -/
def At (w : World) (g o : Nat) (s : St) : Prop :=
  w.cell? ⟨g, o, none⟩ = some (.int .i64 s.id) ∧ w.cell? ⟨g, o + 1, none⟩ = some (.string s.a) ∧ w.cell? ⟨g, o + 2, none⟩ = some (.string s.b)

theorem At.below {w w' : World} {g o B : Nat} {s : St} (h : At w g o s) (hb : Below B w w') (hg : g < B) : At w' g o s :=
  ⟨(hb.cell (p := ⟨g, o, none⟩) hg).trans h.1, (hb.cell (p := ⟨g, o + 1, none⟩) hg).trans h.2.1, (hb.cell (p := ⟨g, o + 2, none⟩) hg).trans h.2.2⟩

set_option maxHeartbeats 400000 in
theorem add16 (t n : Int) (w : World) (h0 : 0 ≤ t) (h1 : t ≤ 1048576) (hn : 0 ≤ n) :
    Calls Tryf.prog 16 #[.int .i64 t, .int .i64 n] w fun e w' => ∃ (t' : Int) (ok : Bool), e = .returned (.tuple #[.int .i64 t', .bool ok]) ∧ 0 ≤ t' ∧ t' ≤ 1048576 ∧ w' = w := by
  go_enter Tryf.func16, Tryf.ntmps16
  go_wp2
  · go_ret2
    exact ⟨_, _, rfl, h0, h1, rfl⟩
  · go_ret2
    exact ⟨_, _, rfl, by omega, by omega, rfl⟩

set_option maxHeartbeats 400000 in
theorem conv14 (s : St) (w : World) :
    Calls Tryf.prog 14 #[.agg #[.int .i64 s.id, .string s.a, .string s.b]] w fun e w' => e = .returned (.agg #[.int .i64 s.id, .string s.a, .string s.b]) ∧ Below w.heap.size w w' := by
  go_enter Tryf.func14, Tryf.ntmps14
  go_wp2
  exact bodyPost_ret (v := .agg #[.int .i64 s.id, .string s.a, .string s.b]) (by simp [results, Tryf.results14, go_sem]) rfl ⟨rfl, ((Below.refl _ _).alloc (Nat.le_refl _) _).alloc (by simp) _⟩

set_option maxHeartbeats 1000000 in
theorem site13 (t : Int) (s : St) (w : World) (h0 : 0 ≤ t) (h1 : t ≤ 1048576) :
    Calls Tryf.prog 13 #[.int .i64 t, .agg #[.int .i64 s.id, .string s.a, .string s.b]] w fun e w' => ∃ (t' : Int) (ok : Bool), e = .returned (.tuple #[.int .i64 t', .bool ok]) ∧ 0 ≤ t' ∧ t' ≤ 1048576 ∧ Below w.heap.size w w' := by
  go_enter Tryf.func13, Tryf.ntmps13
  go_wp2_with fail
  refine (add16 _ _ _ h0 h1 (by omega)).mono ?_
  rintro e w' ⟨t1, ok1, rfl, p0, p1, hw⟩
  obtain rfl := hw.symm
  cases ok1
  · go_wp2_with fail
    go_ret2
    exact ⟨_, _, rfl, p0, p1, (Below.refl _ _).alloc (Nat.le_refl _) _⟩
  go_wp2_with fail
  refine (add16 _ _ _ p0 p1 (by omega)).mono ?_
  rintro e w' ⟨t2, ok2, rfl, q0, q1, hw⟩
  obtain rfl := hw.symm
  cases ok2
  · go_wp2_with fail
    go_ret2
    exact ⟨_, _, rfl, q0, q1, (Below.refl _ _).alloc (Nat.le_refl _) _⟩
  go_wp2_with fail
  refine (add16 _ _ _ q0 q1 (by omega)).mono ?_
  rintro e w' ⟨t3, ok3, rfl, r0, r1, hw⟩
  obtain rfl := hw.symm
  go_wp2_with fail
  go_ret2
  exact ⟨_, _, rfl, r0, r1, (Below.refl _ _).alloc (Nat.le_refl _) _⟩

/-- A slice of sites that came in (or was made): its elements. -/
def Row (w : World) (a : Option Addr) (len : Nat) (ss : List St) : Prop :=
  ss.length = len ∧ (len = 0 ∨ ∃ g o, a = some ⟨g, o, none⟩ ∧ g < w.heap.size ∧ ∀ i s, ss[i]? = some s → At w g (o + i * 3) s)

theorem Row.below {w w' : World} {a : Option Addr} {len : Nat} {ss : List St} (h : Row w a len ss) (hb : Below w.heap.size w w') : Row w' a len ss := by
  obtain ⟨hl, h | ⟨g, o, ha, hg, hc⟩⟩ := h
  · exact ⟨hl, .inl h⟩
  · exact ⟨hl, .inr ⟨g, o, ha, Nat.lt_of_lt_of_le hg hb.size, fun i s hs => (hc i s hs).below hb hg⟩⟩

set_option maxHeartbeats 1000000 in
theorem sites6 (t : Int) (a : Option Addr) (len cap : Nat) (ss : List St) (w : World) (h0 : 0 ≤ t) (h1 : t ≤ 1048576) (hlen : len ≤ 1048576) (hr : Row w a len ss) :
    Calls Tryf.prog 6 #[.int .i64 t, .slice a len cap] w fun e w' => ∃ (t' : Int) (ok : Bool), e = .returned (.tuple #[.int .i64 t', .bool ok]) ∧ 0 ≤ t' ∧ t' ≤ 1048576 ∧ Below w.heap.size w w' := by
  have HR := hide hr
  clear hr
  go_enter Tryf.func6, Tryf.ntmps6
  go_wp2_with fail
  go_loopw [6, 7, 8] (fun v i _ wr => ∃ (k : Nat) (t' : Int), k ≤ len ∧ i = .int .i64 k ∧ v = .int .i64 t' ∧ 0 ≤ t' ∧ t' ≤ 1048576 ∧ Below w.heap.size w wr) (fun _ i _ _ => len - (intOf i).toNat)
  case atStart => exact ⟨0, t, Nat.zero_le _, rfl, rfl, h0, h1, Below.refl _ _⟩
  case round =>
    obtain ⟨k, t', hk, rfl, rfl, p0, p1, hbw⟩ := hrel
    by_cases hlt : k < len
    · obtain ⟨hl, h | ⟨g, o, rfl, hg, hc⟩⟩ := unhide HR
      · exact absurd h (by omega)
      obtain ⟨s, hs⟩ : ∃ s, ss[k]? = some s := ⟨ss[k]'(by omega), by simp⟩
      obtain ⟨c0, c1, c2⟩ := (hc k s hs).below hbw hg
      clear hc hs hl
      go_wp2_with fail
      refine (site13 _ s _ p0 p1).mono ?_
      rintro e w1 ⟨t1, ok1, rfl, q0, q1, hb1⟩
      clear c0 c1 c2
      have hbw1 := hbw.trans (hb1.mono hbw.size)
      cases ok1
      · go_wp2_with fail
        go_ret2
        exact ⟨_, _, rfl, q0, q1, hbw1⟩
      · go_wp2_with fail
        go_roundw
        case rel => exact ⟨k + 1, t1, by omega, by go_num, rfl, q0, q1, hbw1⟩
        case measure => simp [intOf]; omega
    · go_wp2_with fail
      go_ret2
      exact ⟨_, _, rfl, p0, p1, hbw⟩

/-- Where the bound on bytes says yes, the lists are short; nothing old has turned. -/
def Short (len : Nat) (w : World) (e : Ending) (w' : World) : Prop := ∃ ok : Bool, e = .returned (.bool ok) ∧ (ok = true → len ≤ 1048576) ∧ Below w.heap.size w w'

set_option maxHeartbeats 2000000 in
theorem bytes12 (a : Option Addr) (len cap : Nat) (ss : List St) (x : St) (p id : Int) (w : World) (hr : Row w a len ss) :
    Calls Tryf.prog 12 #[.slice a len cap, .agg #[.int .i64 x.id, .string x.a, .string x.b], .int .i64 p, .int .i64 id] w fun e w' => Short len w e w' := by
  have HR := hide hr
  clear hr
  by_cases hlen : len ≤ 1048576
  · go_enter Tryf.func12, Tryf.ntmps12
    go_wp2_with fail
    go_loop [9, 10] (fun v i => ∃ (k : Nat) (z : Int), k ≤ len ∧ i = .int .i64 k ∧ v = .int .i64 z ∧ 0 ≤ z ∧ z ≤ 1048576) (fun _ i => len - (intOf i).toNat)
    case atStart => exact ⟨0, len, Nat.zero_le _, rfl, rfl, by omega, by omega⟩
    case round =>
      obtain ⟨k, z, hk, rfl, rfl, p0, p1⟩ := hrel
      by_cases hlt : k < len
      · obtain ⟨hl, h | ⟨g, o, rfl, hg, hc⟩⟩ := unhide HR
        · exact absurd h (by omega)
        obtain ⟨s, hs⟩ : ∃ s, ss[k]? = some s := ⟨ss[k]'(by omega), by simp⟩
        obtain ⟨c0, c1, c2⟩ := hc k s hs
        have hg1 : g < w.heap.size + 1 := by omega
        clear hc hs hl
        go_wp2_with fail
        all_goals first
          | (go_ret
             exact (⟨_, rfl, fun _ => hlen, (Below.refl _ _).alloc (Nat.le_refl _) _⟩ : Short _ _ _ _))
          | (go_round
             case rel => exact ⟨k + 1, _, by omega, by go_num, rfl, by omega, by omega⟩
             case measure => simp [intOf]; omega)
      · go_wp2_with fail
        all_goals
          go_ret
          exact (⟨_, rfl, fun _ => hlen, (Below.refl _ _).alloc (Nat.le_refl _) _⟩ : Short _ _ _ _)
  · go_enter Tryf.func12, Tryf.ntmps12
    go_wp2_with fail
    go_ret
    exact ⟨false, rfl, fun h => absurd h Bool.false_ne_true, (Below.refl _ _).alloc (Nat.le_refl _) _⟩

/-- A slice of sites that the call itself made, or nil. -/
def Own (w : World) (v : Value) (ss : List St) : Prop :=
  ∃ a c, v = .slice a ss.length c ∧ Row w a ss.length ss

theorem Own.below {w w' : World} {v : Value} {ss : List St} (h : Own w v ss) (hb : Below w.heap.size w w') : Own w' v ss := by
  obtain ⟨a, c, hv, hr⟩ := h
  exact ⟨a, c, hv, hr.below hb⟩

theorem Tryf.info30 : (Tryf.prog.info? 30).map (fun i => (i.zero, i.size, i.bytes)) = some (some (.agg #[.int .i64 0, .string ⟨#[]⟩, .string ⟨#[]⟩]), 3, 40) := by kernel_rfl

def St.cells (s : St) : List Value := [.int .i64 s.id, .string s.a, .string s.b]
def zeroSt : St := ⟨0, ⟨#[]⟩, ⟨#[]⟩⟩

theorem own_block {w : World} {base : Nat} {e : TypeId} {g n k : Nat} {xs : List Value} (h : w.ownsRow base e k (.slice (some ⟨g, 0, none⟩) n n) n xs) : w.heap[g]? = some (.cells xs.toArray e (0, 0)) ∧ xs.length = n * k := by
  obtain ⟨hx, ⟨h', _⟩ | ⟨g', cap, cur, hv, _, hh, _, _, hs, ht⟩⟩ := h
  · cases h'
  · simp only [Value.slice.injEq, Option.some.injEq, Addr.mk.injEq, and_true, true_and] at hv
    obtain ⟨rfl, rfl⟩ := hv
    have e1 : cur.toList = xs := by rw [← ht, List.take_of_length_le (by simp; omega)]
    exact ⟨by rw [hh, ← e1], by omega⟩

/-- The first k sites lie in a row of cells. -/
def Filled (ys : List Value) (k : Nat) (ss : List St) : Prop :=
  ∀ i s, i < k → ss[i]? = some s → ys[i * 3]? = some (.int .i64 s.id) ∧ ys[i * 3 + 1]? = some (.string s.a) ∧ ys[i * 3 + 2]? = some (.string s.b)

theorem fill_step {w2 : World} {G k len : Nat} {ys : List Value} {ss : List St} {s : St} (hG : w2.heap[G]? = some (.cells ys.toArray 30 (0, 0))) (hy : ys.length = len * 3) (hs : ss[k]? = some s) (hf : Filled ys k ss) (hk : k < len) :
    ∃ ys' : List Value, (((w2.setCell ⟨G, k * 3, none⟩ (.int .i64 s.id)).setCell ⟨G, k * 3 + 1, none⟩ (.string s.a)).setCell ⟨G, k * 3 + 2, none⟩ (.string s.b)).heap[G]? = some (.cells ys'.toArray 30 (0, 0)) ∧ ys'.length = len * 3 ∧ Filled ys' (k + 1) ss := by
  have e1 := heap_setCell_same w2 G (k * 3) ys.toArray 30 (.int .i64 s.id) hG
  have e2 := heap_setCell_same _ G (k * 3 + 1) _ 30 (.string s.a) e1
  have e3 := heap_setCell_same _ G (k * 3 + 2) _ 30 (.string s.b) e2
  refine ⟨((ys.set (k * 3) (.int .i64 s.id)).set (k * 3 + 1) (.string s.a)).set (k * 3 + 2) (.string s.b), by rw [e3]; simp, by simpa using hy, ?_⟩
  intro i u hi hu
  by_cases e : i = k
  · subst e
    rw [hs] at hu
    obtain rfl := Option.some.inj hu
    refine ⟨?_, ?_, ?_⟩
    · rw [List.getElem?_set_ne (by omega), List.getElem?_set_ne (by omega), List.getElem?_set_self (by omega)]
    · rw [List.getElem?_set_ne (by omega), List.getElem?_set_self (by simp; omega)]
    · rw [List.getElem?_set_self (by simp; omega)]
  · obtain ⟨h0, h1, h2⟩ := hf i u (by omega) hu
    refine ⟨?_, ?_, ?_⟩
    · rw [List.getElem?_set_ne (by omega), List.getElem?_set_ne (by omega), List.getElem?_set_ne (by omega)]; exact h0
    · rw [List.getElem?_set_ne (by omega), List.getElem?_set_ne (by omega), List.getElem?_set_ne (by omega)]; exact h1
    · rw [List.getElem?_set_ne (by omega), List.getElem?_set_ne (by omega), List.getElem?_set_ne (by omega)]; exact h2

theorem row_of_filled {w : World} {G k : Nat} {ys : List Value} {ss : List St} (hG : w.heap[G]? = some (.cells ys.toArray 30 (0, 0))) (hf : Filled ys k ss) (hk : ss.length ≤ k) : Row w (some ⟨G, 0, none⟩) ss.length ss := by
  refine ⟨rfl, .inr ⟨G, 0, rfl, lt_of_block hG, fun i s hs => ?_⟩⟩
  obtain ⟨h0, h1, h2⟩ := hf i s (by have := (List.getElem?_eq_some_iff.1 hs).1; omega) hs
  refine ⟨?_, ?_, ?_⟩
  · rw [cell_of_row _ _ _ _ _ _ hG]; simpa using h0
  · rw [cell_of_row _ _ _ _ _ _ hG]; simpa using h1
  · rw [cell_of_row _ _ _ _ _ _ hG]; simpa using h2

set_option maxHeartbeats 2000000 in
theorem to7 (a : Option Addr) (len cap : Nat) (ss : List St) (w : World) (hr : Row w a len ss) (hlen : len ≤ 1048576) (hnil : a = none → len = 0) :
    Calls Tryf.prog 7 #[.slice a len cap] w fun e w' => ∃ v, e = .returned v ∧ Own w' v ss ∧ Below w.heap.size w w' := by
  have HR := hide hr
  have hneq := fun (w : World) (a : Option Addr) (n c : Nat) => Lib.run_eql_slice_nil (P := Tryf.prog) w 22 40 a n c 0 0 Tryf.underlying22
  obtain ⟨i0, hi, hz0, hz1, hz2⟩ := info_parts Tryf.info30
  clear hr
  cases a with
  | none =>
    obtain rfl := hnil rfl
    go_enter Tryf.func7, Tryf.ntmps7
    go_wp2_with fail
    go_ret
    have := (unhide HR).1
    obtain rfl : ss = [] := List.eq_nil_of_length_eq_zero this
    exact ⟨_, rfl, ⟨_, _, rfl, rfl, .inl rfl⟩, Below.refl _ _⟩
  | some x =>
    clear hnil
    go_enter Tryf.func7, Tryf.ntmps7
    go_wp2_with (at_make; refine wpList_make_full _ rfl _ _ 26 rfl w.heap.size 30 i0 _ 3 Tryf.underlying26 hi hz0 hz1 _ _ _ _ len rfl rfl rfl rfl (by rw [hz2]; omega) (by unfold maxLen; omega) (Nat.le_refl _) ?_; intro w1 hown1 hgrow1)
    go_loopw [4] (fun i wr => ∃ (k : Nat) (ys : List Value), k ≤ len ∧ i = .int .i64 k ∧ wr.heap[w.heap.size]? = some (.cells ys.toArray 30 (0, 0)) ∧ ys.length = len * 3 ∧ Filled ys k ss ∧ Below w.heap.size w wr) (fun i _ => len - (intOf i).toNat)
    case atStart =>
      obtain ⟨hb, hy⟩ := own_block hown1
      exact ⟨0, _, Nat.zero_le _, rfl, hb, hy, fun i s hi => absurd hi (by omega), (Below.refl _ _).grown hgrow1 (Nat.le_refl _) (fun k h => by cases h)⟩
    case round =>
      obtain ⟨k, ys, hk, rfl, hG, hy, hf, hbw⟩ := hrel
      have HG := hide hG
      have HF := hide hf
      have hGz : w.heap.size < wr.heap.size := lt_of_block hG
      clear hG hf hown1 hgrow1
      by_cases hlt : k < len
      · obtain ⟨hl, h | ⟨g, o, hx, hg, hc⟩⟩ := unhide HR
        · exact absurd h (by omega)
        obtain rfl := Option.some.inj hx
        obtain ⟨s, hs⟩ : ∃ s, ss[k]? = some s := ⟨ss[k]'(by omega), by simp⟩
        obtain ⟨c0, c1, c2⟩ := (hc k s hs).below hbw hg
        have HS := hide hs
        clear hc hs hl hx
        go_wp2_with fail
        refine (conv14 s _).mono ?_
        rintro e w2 ⟨rfl, hb2⟩
        clear c0 c1 c2
        have HG2 : Hid (w2.heap[w.heap.size]? = some (.cells ys.toArray 30 (0, 0))) := hide ((hb2.block _ hGz).trans (unhide HG))
        obtain ⟨v0, d0⟩ : ∃ v, w2.cell? ⟨w.heap.size, k * 3, none⟩ = some v := ⟨ys[k * 3]'(by omega), by rw [cell_of_row _ _ _ _ _ _ (unhide HG2)]; simp⟩
        obtain ⟨v1, d1⟩ : ∃ v, w2.cell? ⟨w.heap.size, k * 3 + 1, none⟩ = some v := ⟨ys[k * 3 + 1]'(by omega), by rw [cell_of_row _ _ _ _ _ _ (unhide HG2)]; simp⟩
        obtain ⟨v2, d2⟩ : ∃ v, w2.cell? ⟨w.heap.size, k * 3 + 2, none⟩ = some v := ⟨ys[k * 3 + 2]'(by omega), by rw [cell_of_row _ _ _ _ _ _ (unhide HG2)]; simp⟩
        have f0 : w2.frozen? ⟨w.heap.size, k * 3, none⟩ = false := frozen_of_row _ _ _ _ _ (unhide HG2)
        have f1 : w2.frozen? ⟨w.heap.size, k * 3 + 1, none⟩ = false := frozen_of_row _ _ _ _ _ (unhide HG2)
        have f2 : w2.frozen? ⟨w.heap.size, k * 3 + 2, none⟩ = false := frozen_of_row _ _ _ _ _ (unhide HG2)
        go_wp2_with fail
        obtain ⟨ys', r1, r2, r3⟩ := fill_step (unhide HG2) hy (unhide HS) (unhide HF) hlt
        go_roundw
        case rel => exact ⟨k + 1, ys', by omega, by go_num, r1, r2, r3, (((hbw.trans (hb2.mono hbw.size)).setCell (p := ⟨w.heap.size, k * 3, none⟩) (Nat.le_refl _) _).setCell (p := ⟨w.heap.size, k * 3 + 1, none⟩) (Nat.le_refl _) _).setCell (p := ⟨w.heap.size, k * 3 + 2, none⟩) (Nat.le_refl _) _⟩
        case measure => simp [intOf]; omega
      · go_wp2_with fail
        go_ret
        have hl := (unhide HR).1
        refine ⟨_, rfl, ⟨_, _, by rw [hl]; rfl, row_of_filled (unhide HG) (unhide HF) (by omega)⟩, hbw⟩

end Go.Proofs.Qxb6630572aFmt
