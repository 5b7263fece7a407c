/-
  cmp.Compare, PointerAt's two closures, and slices.BinarySearchFunc at both (functions 22, 16, 15, 19, 14, 18).
-/
import Derived.Test.Qxb6630533aDoorFits
import Derived.Deep.LoopGhost
namespace Go.Proofs.Qxb6630533aDoor
open Go.RowKit

theorem isnan22 (x : Int) (w : World) : Calls Tryd.prog 22 #[.int .i64 x] w fun e w' => e = .returned (.bool false) ∧ w' = w := by
  go_enter Tryd.func22, Tryd.ntmps22
  go_wp2_with fail
  go_ret
  simp

def Is16 (x y : Int) (w : World) (e : Ending) (w' : World) : Prop := e = .returned (.int .i64 (cmpI x y)) ∧ w' = w

theorem cmp16 (x y : Int) (w : World) : Calls Tryd.prog 16 #[.int .i64 x, .int .i64 y] w (Is16 x y w) := by
  go_enter Tryd.func16, Tryd.ntmps16
  go_wp2_with (first | (go_at_call 22; refine (isnan22 _ _).mono ?_; rintro _ _ ⟨rfl, rfl⟩))
  all_goals go_ret
  · exact ⟨by unfold cmpI; rw [if_pos ‹x < y›]; rfl, rfl⟩
  · exact ⟨by unfold cmpI; rw [if_neg (by omega), if_pos ‹y < x›]; rfl, rfl⟩
  · exact ⟨by unfold cmpI; rw [if_neg (by omega), if_neg (by omega)]; rfl, rfl⟩

theorem clos15 (h : Nat) (o x : Int) (w : World) (hc : w.cell? ⟨h, 1, none⟩ = some (.int .i64 o)) : Calls Tryd.prog 15 #[.pointer (some ⟨h, 0, none⟩), .int .i64 x] w (Is16 o x w) := by
  go_enter Tryd.func15, Tryd.ntmps15
  go_wp2_with (first | (go_at_call 16; refine (cmp16 _ _ _).mono ?_; rintro _ _ ⟨rfl, rfl⟩))
  go_ret
  exact ⟨rfl, rfl⟩

def Is19 (x y : Int) (w : World) (e : Ending) (w' : World) : Prop := e = .returned (.int .i64 (cmpI x y)) ∧ Below w.heap.size w w'

theorem clos19 (nm : ByteArray) (p : Option Addr) (o x : Int) (w : World) : Calls Tryd.prog 19 #[.agg #[.string nm, .int .i64 o, .pointer p], .int .i64 x] w (Is19 o x w) := by
  go_enter Tryd.func19, Tryd.ntmps19
  go_wp2_with (first | (go_at_call 16; refine (cmp16 _ _ _).mono ?_; rintro _ _ ⟨rfl, rfl⟩))
  go_ret
  exact ⟨rfl, (Below.refl _ _).alloc (Nat.le_refl _) _⟩

/-- The row of pointers as the search reads it. -/
def Sees (w : World) (a : Option Addr) (len : Nat) (f : Nat → Int) : Prop :=
  len = 0 ∨ ∃ g o, a = some ⟨g, o, none⟩ ∧ ∀ k, k < len → ∃ h, w.cell? ⟨g, o + k, none⟩ = some (.pointer (some ⟨h, 0, none⟩)) ∧ w.cell? ⟨h, 1, none⟩ = some (.int .i64 (f k))

def Found (c : Nat → Int) (len : Nat) (w : World) (e : Ending) (w' : World) : Prop := e = .returned (.tuple #[.int .i64 (bsI c len), .bool (bsF c len)]) ∧ w' = w

theorem bsGo_fuel (c : Nat → Int) : ∀ (f g i j : Nat), j - i ≤ f → j - i ≤ g → bsGo c f i j = bsGo c g i j := by
  intro f
  induction f with
  | zero =>
    intro g i j h _
    cases g with
    | zero => rfl
    | succ g => rw [bsGo, bsGo, if_neg (by omega)]
  | succ f ih =>
    intro g i j h1 h2
    cases g with
    | zero => rw [bsGo, bsGo, if_neg (by omega)]
    | succ g =>
      rw [bsGo, bsGo]
      by_cases hij : i < j
      · rw [if_pos hij, if_pos hij, ih g ((i + j) / 2 + 1) j (by omega) (by omega), ih g i ((i + j) / 2) (by omega) (by omega)]
      · rw [if_neg hij, if_neg hij]

theorem bsGo_lt {c : Nat → Int} {f i j : Nat} (hij : i < j) (hf : j - i ≤ f) (h : c ((i + j) / 2) < 0) : bsGo c f i j = bsGo c (j - ((i + j) / 2 + 1)) ((i + j) / 2 + 1) j := by
  obtain ⟨g, rfl⟩ : ∃ g, f = g + 1 := ⟨f - 1, by omega⟩
  rw [bsGo, if_pos hij, if_pos h]
  exact bsGo_fuel _ _ _ _ _ (by omega) (Nat.le_refl _)

theorem bsGo_ge {c : Nat → Int} {f i j : Nat} (hij : i < j) (hf : j - i ≤ f) (h : ¬ c ((i + j) / 2) < 0) : bsGo c f i j = bsGo c ((i + j) / 2 - i) i ((i + j) / 2) := by
  obtain ⟨g, rfl⟩ : ∃ g, f = g + 1 := ⟨f - 1, by omega⟩
  rw [bsGo, if_pos hij, if_neg h]
  exact bsGo_fuel _ _ _ _ _ (by omega) (Nat.le_refl _)

theorem bsGo_end {c : Nat → Int} {f i : Nat} : bsGo c f i i = i := by
  cases f with
  | zero => rfl
  | succ g => rw [bsGo, if_neg (by omega)]

set_option maxHeartbeats 4000000 in
set_option maxRecDepth 100000 in
theorem bs14 (a : Option Addr) (len cap : Nat) (f : Nat → Int) (x : Int) (w : World) (hl : len ≤ 1048576) (hs : Sees w a len f) :
    Calls Tryd.prog 14 #[.slice a len cap, .int .i64 x, .func (.func 15) #[] #[]] w (Found (fun k => cmpI (f k) x) len w) := by
  have HS := hide hs
  clear hs
  go_enter Tryd.func14, Tryd.ntmps14
  go_wp2_with fail
  go_loopg [9, 10] len (fun g s9 s10 wr => ∃ lo hi : Nat, s9 = .int .i64 lo ∧ s10 = .int .i64 hi ∧ lo ≤ hi ∧ hi ≤ len ∧ hi - lo ≤ g ∧ wr = w ∧ bsI (fun k => cmpI (f k) x) len = bsGo (fun k => cmpI (f k) x) g lo hi)
  case atStart => exact ⟨0, len, rfl, rfl, Nat.zero_le _, Nat.le_refl _, by omega, rfl, rfl⟩
  case round =>
    obtain ⟨lo, hi, rfl, rfl, hlh, hin, hg, rfl, hb⟩ := hrel
    have HB := hide hb
    clear hb
    by_cases hlt : lo < hi
    · obtain h | ⟨gb, o, rfl, hc⟩ := unhide HS
      · exact absurd h (by omega)
      obtain ⟨p, cm, co⟩ := hc ((lo + hi) / 2) (by omega)
      clear hc
      by_cases hyx : cmpI (f ((lo + hi) / 2)) x < 0
      · go_wp2_with (first | (go_at_call 15; refine (clos15 p _ _ _ co).mono ?_; rintro _ _ ⟨rfl, rfl⟩))
        go_roundg (hi - ((lo + hi) / 2 + 1))
        case measure => omega
        case rel => exact ⟨(lo + hi) / 2 + 1, hi, by rw [show ((lo : Int) + (hi : Int)) / 2 + 1 = (((lo + hi) / 2 + 1 : Nat) : Int) by omega], rfl, by omega, hin, Nat.le_refl _, rfl, (unhide HB).trans (bsGo_lt hlt hg hyx)⟩
      · go_wp2_with (first | (go_at_call 15; refine (clos15 p _ _ _ co).mono ?_; rintro _ _ ⟨rfl, rfl⟩))
        go_roundg ((lo + hi) / 2 - lo)
        case measure => omega
        case rel => exact ⟨lo, (lo + hi) / 2, rfl, by rw [show ((lo : Int) + (hi : Int)) / 2 = (((lo + hi) / 2 : Nat) : Int) by omega], by omega, by omega, Nat.le_refl _, rfl, (unhide HB).trans (bsGo_ge hlt hg (Int.not_lt.2 hyx))⟩
    · obtain rfl : hi = lo := by omega
      have HI : Hid (bsI (fun k => cmpI (f k) x) len = hi) := hide ((unhide HB).trans bsGo_end)
      by_cases hn : hi < len
      · obtain h | ⟨gb, o, rfl, hc⟩ := unhide HS
        · exact absurd h (by omega)
        obtain ⟨p, cm, co⟩ := hc hi hn
        clear hc
        go_wp2_with (first | (go_at_call 15; refine (clos15 p _ _ _ co).mono ?_; rintro _ _ ⟨rfl, rfl⟩))
        go_ret2
        refine ⟨?_, rfl⟩
        rw [bsF, unhide HI, decide_eq_true hn, Bool.true_and]
        rfl
      · go_wp2_with fail
        go_ret2
        refine ⟨?_, rfl⟩
        rw [bsF, unhide HI, decide_eq_false hn, Bool.false_and]
        rfl

/-- The row of members as the search reads it. -/
def SeesM (w : World) (a : Option Addr) (len : Nat) (f : Nat → Int) : Prop :=
  len = 0 ∨ ∃ g o, a = some ⟨g, o, none⟩ ∧ g < w.heap.size ∧ ∀ k, k < len → ∃ nm p, w.cell? ⟨g, o + k * 3, none⟩ = some (.string nm) ∧ w.cell? ⟨g, o + k * 3 + 1, none⟩ = some (.int .i64 (f k)) ∧ w.cell? ⟨g, o + k * 3 + 2, none⟩ = some (.pointer p)

def FoundM (c : Nat → Int) (len : Nat) (w : World) (e : Ending) (w' : World) : Prop := e = .returned (.tuple #[.int .i64 (bsI c len), .bool (bsF c len)]) ∧ Below w.heap.size w w'

set_option maxHeartbeats 4000000 in
set_option maxRecDepth 100000 in
theorem bs18 (a : Option Addr) (len cap : Nat) (f : Nat → Int) (x : Int) (w : World) (hl : len ≤ 1048576) (hs : SeesM w a len f) :
    Calls Tryd.prog 18 #[.slice a len cap, .int .i64 x, .func (.func 19) #[] #[]] w (FoundM (fun k => cmpI (f k) x) len w) := by
  have HS := hide hs
  clear hs
  go_enter Tryd.func18, Tryd.ntmps18
  go_wp2_with fail
  go_loopg [9, 10] len (fun g s9 s10 wr => ∃ lo hi : Nat, s9 = .int .i64 lo ∧ s10 = .int .i64 hi ∧ lo ≤ hi ∧ hi ≤ len ∧ hi - lo ≤ g ∧ Below w.heap.size w wr ∧ bsI (fun k => cmpI (f k) x) len = bsGo (fun k => cmpI (f k) x) g lo hi)
  case atStart => exact ⟨0, len, rfl, rfl, Nat.zero_le _, Nat.le_refl _, by omega, Below.refl _ _, rfl⟩
  case round =>
    obtain ⟨lo, hi, rfl, rfl, hlh, hin, hg, hbw, hb⟩ := hrel
    have HB := hide hb
    clear hb
    by_cases hlt : lo < hi
    · obtain h | ⟨gb, o, rfl, hgz, hc⟩ := unhide HS
      · exact absurd h (by omega)
      obtain ⟨nm, p, cm, co, cp⟩ := hc ((lo + hi) / 2) (by omega)
      have cm := (hbw.cell (p := ⟨gb, _, none⟩) hgz).trans cm
      have co := (hbw.cell (p := ⟨gb, _, none⟩) hgz).trans co
      have cp := (hbw.cell (p := ⟨gb, _, none⟩) hgz).trans cp
      clear hc
      by_cases hyx : cmpI (f ((lo + hi) / 2)) x < 0
      · go_wp2_with (first | (go_at_call 19; refine (clos19 nm p _ _ _).mono ?_; rintro _ w2 ⟨rfl, hb2⟩))
        go_roundg (hi - ((lo + hi) / 2 + 1))
        case measure => omega
        case rel => exact ⟨(lo + hi) / 2 + 1, hi, by rw [show ((lo : Int) + (hi : Int)) / 2 + 1 = (((lo + hi) / 2 + 1 : Nat) : Int) by omega], rfl, by omega, hin, Nat.le_refl _, hbw.trans (hb2.mono hbw.size), (unhide HB).trans (bsGo_lt hlt hg hyx)⟩
      · go_wp2_with (first | (go_at_call 19; refine (clos19 nm p _ _ _).mono ?_; rintro _ w2 ⟨rfl, hb2⟩))
        go_roundg ((lo + hi) / 2 - lo)
        case measure => omega
        case rel => exact ⟨lo, (lo + hi) / 2, rfl, by rw [show ((lo : Int) + (hi : Int)) / 2 = (((lo + hi) / 2 : Nat) : Int) by omega], by omega, by omega, Nat.le_refl _, hbw.trans (hb2.mono hbw.size), (unhide HB).trans (bsGo_ge hlt hg (Int.not_lt.2 hyx))⟩
    · obtain rfl : hi = lo := by omega
      have HI : Hid (bsI (fun k => cmpI (f k) x) len = hi) := hide ((unhide HB).trans bsGo_end)
      by_cases hn : hi < len
      · obtain h | ⟨gb, o, rfl, hgz, hc⟩ := unhide HS
        · exact absurd h (by omega)
        obtain ⟨nm, p, cm, co, cp⟩ := hc hi hn
        have cm := (hbw.cell (p := ⟨gb, _, none⟩) hgz).trans cm
        have co := (hbw.cell (p := ⟨gb, _, none⟩) hgz).trans co
        have cp := (hbw.cell (p := ⟨gb, _, none⟩) hgz).trans cp
        clear hc
        go_wp2_with (first | (go_at_call 19; refine (clos19 nm p _ _ _).mono ?_; rintro _ w2 ⟨rfl, hb2⟩))
        go_ret2
        refine ⟨?_, hbw.trans (hb2.mono hbw.size)⟩
        rw [bsF, unhide HI, decide_eq_true hn, Bool.true_and]
        rfl
      · go_wp2_with fail
        go_ret2
        refine ⟨?_, hbw⟩
        rw [bsF, unhide HI, decide_eq_false hn, Bool.false_and]
        rfl

end Go.Proofs.Qxb6630533aDoor
