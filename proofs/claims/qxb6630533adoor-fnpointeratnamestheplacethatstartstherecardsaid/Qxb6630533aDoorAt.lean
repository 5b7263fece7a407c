/-
  jsondoc.PointerAt (function 8) computes ptAt.
-/
import Derived.Test.Qxb6630533aDoorPtr
import Derived.Test.Qxb6630533aDoorShelf
import Derived.Deep.AppendLies
import Derived.Deep.RegionHeld3
import Derived.Lib.SmallJoins
import Derived.Lib.ItoaLen
namespace Go.Proofs.Qxb6630533aDoor
open Go.RowKit Go.Lib

theorem tabGlobal : ∃ g, Tryd.prog.globalNamed tabName = some g := ⟨0, by kernel_rfl⟩

theorem tab_keep {w w' : World} {B : Nat} (h : Lib.TabIs Tryd.prog w tabName .u64 Lib.pow10Tab) (hb : Below B w w') (hB : w.heap.size ≤ B) : Lib.TabIs Tryd.prog w' tabName .u64 Lib.pow10Tab := by
  obtain ⟨g, hg⟩ := tabGlobal
  exact Go.Joins.tab_stays hg h hb hB

theorem below_grow (w : World) (k : Nat) (os : Array Obj) : Below w.heap.size w (Sort.grow (w.drewN k) os) :=
  ⟨rfl, rfl, rfl, by simp [Sort.grow, World.drewN], fun i hi => by simp [Sort.grow, World.drewN, Array.getElem?_append, hi]⟩

/-- strconv.Itoa, as PointerAt uses it. -/
theorem itoaB (j : Nat) (hj : j ≤ 1048576) (w : World) (htab : Lib.TabIs Tryd.prog w tabName .u64 Lib.pow10Tab) :
    Calls Tryd.prog 17 #[.int .i64 (j : Int)] w fun e w' => e = .returned (.string (tokI j)) ∧ Below w.heap.size w w' := by
  refine (itoa17 (j : Int) (by omega) (by omega) w htab).mono ?_
  rintro e w' ⟨h1, k, os, rfl⟩
  exact ⟨h1, below_grow _ _ _⟩

theorem tokI_size (j : Nat) (hj : j ≤ 1048576) : (tokI j).size ≤ 21 := by
  have := itoa_length_le (j : Int) (by omega) (by omega)
  show (Lib.itoa (j : Int)).toArray.size ≤ 21
  simpa using this

/-- The searches, with what they find named. -/
def Finds (i : Int) (f : Bool) (w : World) (e : Ending) (w' : World) : Prop := e = .returned (.tuple #[.int .i64 i, .bool f]) ∧ Below w.heap.size w w'

def Finds14 (i : Int) (f : Bool) (w : World) (e : Ending) (w' : World) : Prop := e = .returned (.tuple #[.int .i64 i, .bool f]) ∧ w' = w

theorem bs14' (i : Int) (f : Bool) (a : Option Addr) (len cap : Nat) (g : Nat → Int) (x : Int) (w : World) (hl : len ≤ 1048576) (hs : Sees w a len g) (hI : (bsI (fun k => cmpI (g k) x) len : Int) = i) (hF : bsF (fun k => cmpI (g k) x) len = f) :
    Calls Tryd.prog 14 #[.slice a len cap, .int .i64 x, .func (.func 15) #[] #[]] w (Finds14 i f w) := by
  refine (bs14 a len cap g x w hl hs).mono ?_
  rintro e w' ⟨h1, rfl⟩
  exact ⟨by rw [h1, hI, hF], rfl⟩

theorem bs18' (i : Int) (f : Bool) (a : Option Addr) (len cap : Nat) (g : Nat → Int) (x : Int) (w : World) (hl : len ≤ 1048576) (hs : SeesM w a len g) (hI : (bsI (fun k => cmpI (g k) x) len : Int) = i) (hF : bsF (fun k => cmpI (g k) x) len = f) :
    Calls Tryd.prog 18 #[.slice a len cap, .int .i64 x, .func (.func 19) #[] #[]] w (Finds i f w) := by
  refine (bs18 a len cap g x w hl hs).mono ?_
  rintro e w' ⟨h1, h2⟩
  exact ⟨by rw [h1, hI, hF], h2⟩

theorem out_cells {w : World} {m h : Nat} {e : Tr m} (hO : OutV w 0 m h e) : h < w.heap.size ∧ w.cell? ⟨h, 1, none⟩ = some (.int .i64 (offOf m e)) ∧ w.cell? ⟨h, 2, none⟩ = some (.int .i64 (finOf m e)) := by
  cases m with
  | zero => exact hO.elim
  | succ m =>
    obtain ⟨_, hg, b, s1, s2, ea, el, ec, ma, ml, mc, hC, _, _⟩ := hO
    refine ⟨hg, ?_, ?_⟩
    · have := hC 1 (by simp)
      simp only [Nat.zero_add, List.getElem?_cons_zero, List.getElem?_cons_succ] at this
      exact this
    · have := hC 2 (by simp)
      simp only [Nat.zero_add, List.getElem?_cons_zero, List.getElem?_cons_succ] at this
      exact this

theorem els_at {w : World} {m : Nat} {ea : Option Addr} {el j : Nat} {els : List (Tr m)} {e : Tr m} (h : Rw w 0 1 (fun cs x => ∃ h, cs = [.pointer (some ⟨h, 0, none⟩)] ∧ OutV w 0 m h x) ea el els) (he : els[j]? = some e) :
    ∃ ge o p, ea = some ⟨ge, o, none⟩ ∧ ge < w.heap.size ∧ w.cell? ⟨ge, o + j, none⟩ = some (.pointer (some ⟨p, 0, none⟩)) ∧ OutV w 0 m p e := by
  obtain ⟨hl, h0 | ⟨g, o, ha, _, hg, hc⟩⟩ := h
  · have := (List.getElem?_eq_some_iff.1 he).1; omega
  · obtain ⟨cs, _, hcc, p, rfl, hO⟩ := hc j e he
    refine ⟨g, o, p, ha, hg, ?_, hO⟩
    have := hcc 0 (by simp)
    simpa using this

theorem els_sees {w : World} {m : Nat} {ea : Option Addr} {el : Nat} {els : List (Tr m)} (h : Rw w 0 1 (fun cs x => ∃ h, cs = [.pointer (some ⟨h, 0, none⟩)] ∧ OutV w 0 m h x) ea el els) : Sees w ea el (offAt els) := by
  obtain ⟨hl, h0 | ⟨g, o, ha, _, hg, hc⟩⟩ := h
  · exact .inl h0
  · refine .inr ⟨g, o, ha, fun k hk => ?_⟩
    have he : els[k]? = some (els[k]'(by omega)) := by simp
    obtain ⟨cs, _, hcc, p, rfl, hO⟩ := hc k _ he
    refine ⟨p, ?_, ?_⟩
    · have := hcc 0 (by simp)
      simpa using this
    · unfold offAt
      rw [he]
      exact (out_cells hO).2.1

theorem mem_at {w : World} {m : Nat} {ma : Option Addr} {ml j : Nat} {mem : List (MemF (Tr m))} {e : MemF (Tr m)} (h : Rw w 0 3 (fun cs m' => ∃ h, cs = [.string m'.name, .int .i64 m'.off, .pointer (some ⟨h, 0, none⟩)] ∧ OutV w 0 m h m'.val) ma ml mem) (he : mem[j]? = some e) :
    ∃ ge o p, ma = some ⟨ge, o, none⟩ ∧ ge < w.heap.size ∧ w.cell? ⟨ge, o + j * 3, none⟩ = some (.string e.name) ∧ w.cell? ⟨ge, o + j * 3 + 2, none⟩ = some (.pointer (some ⟨p, 0, none⟩)) ∧ OutV w 0 m p e.val := by
  obtain ⟨hl, h0 | ⟨g, o, ha, _, hg, hc⟩⟩ := h
  · have := (List.getElem?_eq_some_iff.1 he).1; omega
  · obtain ⟨cs, _, hcc, p, rfl, hO⟩ := hc j e he
    refine ⟨g, o, p, ha, hg, ?_, ?_, hO⟩
    · have := hcc 0 (by simp)
      simpa using this
    · have := hcc 2 (by simp)
      simpa using this

theorem mem_sees {w : World} {m : Nat} {ma : Option Addr} {ml : Nat} {mem : List (MemF (Tr m))} (h : Rw w 0 3 (fun cs m' => ∃ h, cs = [.string m'.name, .int .i64 m'.off, .pointer (some ⟨h, 0, none⟩)] ∧ OutV w 0 m h m'.val) ma ml mem) : SeesM w ma ml (moffAt mem) := by
  obtain ⟨hl, h0 | ⟨g, o, ha, _, hg, hc⟩⟩ := h
  · exact .inl h0
  · refine .inr ⟨g, o, ha, hg, fun k hk => ?_⟩
    have he : mem[k]? = some (mem[k]'(by omega)) := by simp
    obtain ⟨cs, _, hcc, p, rfl, hO⟩ := hc k _ he
    refine ⟨(mem[k]'(by omega)).name, some ⟨p, 0, none⟩, ?_, ?_, ?_⟩
    · have := hcc 0 (by simp)
      simpa using this
    · have := hcc 1 (by simp)
      unfold moffAt
      rw [he]
      simpa using this
    · have := hcc 2 (by simp)
      simpa using this

/-- What PointerAt answers of ptAt's answer. -/
def ansS (o : Option (List ByteArray)) : ByteArray := match o with | none => ⟨#[]⟩ | some T => ⟨(ptText T).toArray⟩
def Ans8 (o : Option (List ByteArray)) (w : World) (e : Ending) (w' : World) : Prop := e = .returned (.tuple #[.string (ansS o), .bool o.isSome]) ∧ Below w.heap.size w w'

def At8 {n : Nat} (x : Int) (w : World) (t : Tr n) (m : Nat) (s0 s6 : Value) (wr : World) : Prop :=
  ∃ (tm : Tr m) (gm : Nat) (T : List ByteArray), s0 = .pointer (some ⟨gm, 0, none⟩) ∧ OutV w 0 m gm tm ∧ ptAt x n t = (ptAt x m tm).map (T ++ ·) ∧ wr.ownsRow w.heap.size 9 1 s6 T.length (T.map .string) ∧ Below w.heap.size w wr ∧ ptBound T + 2 * weight m tm ≤ 2097152

/-- A row of strings that the call owns. -/
theorem own_strs {w : World} {B : Nat} {v : Value} {T : List ByteArray} (h : w.ownsRow B 9 1 v T.length (T.map .string)) : ∃ a cap, v = .slice a T.length cap ∧ StrRow w a T ∧ (∀ g, v.ownBlock = some g → B ≤ g ∧ g < w.heap.size) := by
  have hlt := h.lt
  rcases h.2 with ⟨rfl, h0⟩ | ⟨g, cap, cur, rfl, hB, hg, _, _, _, ht⟩
  · have e : T = [] := List.length_eq_zero_iff.1 h0
    subst e
    exact ⟨none, 0, rfl, .inl rfl, hlt⟩
  · refine ⟨some ⟨g, 0, none⟩, cap, rfl, .inr ⟨g, 0, rfl, lt_of_block hg, fun i s hs => ?_⟩, hlt⟩
    have := h.cells (g := g) rfl i (.string s) (by rw [List.getElem?_map, hs]; rfl)
    have hadd : (⟨g, 0, none⟩ : Addr).add i = ⟨g, 0 + i, none⟩ := by unfold Addr.add; split <;> simp_all
    rw [hadd] at this
    exact this

theorem own_keep {w w' : World} {B : Nat} {e : TypeId} {k : Nat} {v : Value} {n : Nat} {xs : List Value} (h : w.ownsRow B e k v n xs) (hb : Below w.heap.size w w') : w'.ownsRow B e k v n xs := by
  obtain ⟨h1, h2 | ⟨g, cap, cur, a, b, hg, rest⟩⟩ := h
  · exact ⟨h1, .inl h2⟩
  · exact ⟨h1, .inr ⟨g, cap, cur, a, b, (hb.block g (lt_of_block hg)).trans hg, rest⟩⟩

theorem pointer20' {w : World} {B g cap : Nat} {T : List ByteArray} {b : ByteArray} (h : w.ownsRow B 9 1 (.slice (some ⟨g, 0, none⟩) (T.length + 1) cap) (T.length + 1) (T.map .string ++ [.string b])) (hB : ptBound (T ++ [b]) ≤ 140737488355328) :
    Calls Tryd.prog 20 #[.slice (some ⟨g, 0, none⟩) (T.length + 1) cap] w fun e w' => e = .returned (.string ⟨(ptText (T ++ [b])).toArray⟩) ∧ Below w.heap.size w w' := by
  have e1 : T.length + 1 = (T ++ [b]).length := by simp
  have e2 : T.map Value.string ++ [.string b] = (T ++ [b]).map .string := by simp
  rw [e1, e2] at h
  obtain ⟨a, c, hv, hsr, _⟩ := own_strs h
  cases hv
  rw [e1]
  exact pointer20 _ _ (T ++ [b]) w hsr hB

theorem info9 : (Tryd.prog.info? 9).map (fun i => (i.zero, i.size, i.bytes)) = some (some (.string ⟨#[]⟩), 1, 16) := by kernel_rfl

theorem ptStep_el_none {m : Nat} {rec : Tr m → Option (List ByteArray)} {x off fin : Int} {els : List (Tr m)} {mem : List (MemF (Tr m))} {el : Nat} (hx : ¬ off = x) (hl : els.length = el)
    (hF : bsF (fun h => cmpI (offAt els h) x) el = false) (hI : bsI (fun h => cmpI (offAt els h) x) el = 0) : ptStep rec x ⟨4, off, fin, els, mem⟩ = none := by
  subst hl
  unfold ptStep
  simp only [if_neg hx, if_true, hF, hI]
  rfl

theorem ptStep_el {m : Nat} {rec : Tr m → Option (List ByteArray)} {x off fin : Int} {els : List (Tr m)} {mem : List (MemF (Tr m))} {el j : Nat} {F : Bool} {e : Tr m} (hx : ¬ off = x) (hl : els.length = el)
    (hF : bsF (fun h => cmpI (offAt els h) x) el = F) (hI : bsI (fun h => cmpI (offAt els h) x) el = (if F then j else j + 1)) (he : els[j]? = some e) :
    ptStep rec x ⟨4, off, fin, els, mem⟩ = if finOf m e ≤ x then none else (rec e).map (tokI j :: ·) := by
  subst hl
  unfold ptStep
  simp only [if_neg hx, if_true, hF, hI]
  cases F
  · simp only [Bool.false_eq_true, if_false, he]
  · simp only [if_true, he]

theorem ptStep_me_found {m : Nat} {rec : Tr m → Option (List ByteArray)} {x off fin : Int} {els : List (Tr m)} {mem : List (MemF (Tr m))} {ml j : Nat} {e : MemF (Tr m)} (hx : ¬ off = x) (hl : mem.length = ml)
    (hF : bsF (fun h => cmpI (moffAt mem h) x) ml = true) (hI : bsI (fun h => cmpI (moffAt mem h) x) ml = j) (he : mem[j]? = some e) :
    ptStep rec x ⟨5, off, fin, els, mem⟩ = some [e.name] := by
  subst hl
  unfold ptStep
  simp only [if_neg hx, if_true, hF, hI, he, show ¬ (5 : Int) = 4 by decide, if_false, Option.map_some]

theorem ptStep_me_none {m : Nat} {rec : Tr m → Option (List ByteArray)} {x off fin : Int} {els : List (Tr m)} {mem : List (MemF (Tr m))} {ml : Nat} (hx : ¬ off = x) (hl : mem.length = ml)
    (hF : bsF (fun h => cmpI (moffAt mem h) x) ml = false) (hI : bsI (fun h => cmpI (moffAt mem h) x) ml = 0) : ptStep rec x ⟨5, off, fin, els, mem⟩ = none := by
  subst hl
  unfold ptStep
  simp only [if_neg hx, if_true, hF, hI, show ¬ (5 : Int) = 4 by decide, if_false]
  rfl

theorem ptStep_me {m : Nat} {rec : Tr m → Option (List ByteArray)} {x off fin : Int} {els : List (Tr m)} {mem : List (MemF (Tr m))} {ml j : Nat} {e : MemF (Tr m)} (hx : ¬ off = x) (hl : mem.length = ml)
    (hF : bsF (fun h => cmpI (moffAt mem h) x) ml = false) (hI : bsI (fun h => cmpI (moffAt mem h) x) ml = j + 1) (he : mem[j]? = some e) :
    ptStep rec x ⟨5, off, fin, els, mem⟩ = if finOf m e.val ≤ x then none else (rec e.val).map (e.name :: ·) := by
  subst hl
  unfold ptStep
  simp only [if_neg hx, if_true, hF, hI, he, show ¬ (5 : Int) = 4 by decide, if_false, Bool.false_eq_true]

theorem ptStep_other {m : Nat} {rec : Tr m → Option (List ByteArray)} {x kind off fin : Int} {els : List (Tr m)} {mem : List (MemF (Tr m))} (hx : ¬ off = x) (h4 : ¬ kind = 4) (h5 : ¬ kind = 5) : ptStep rec x ⟨kind, off, fin, els, mem⟩ = none := by
  unfold ptStep
  simp only [if_neg hx, if_neg h4, if_neg h5]

theorem ptBound_append (T : List ByteArray) (t : ByteArray) : ptBound (T ++ [t]) = ptBound T + (1 + 2 * t.size) := by
  unfold ptBound
  simp

/-- The two searches' answer: an index, or nothing at or before x. -/
theorem search_cases (c : Nat → Int) (len : Nat) : (bsF c len = false ∧ bsI c len = 0) ∨ ∃ j, j < len ∧ bsI c len = (if bsF c len then j else j + 1) := by
  have hle := bsI_le c len
  cases hF : bsF c len with
  | true =>
    refine .inr ⟨bsI c len, ?_, rfl⟩
    unfold bsF at hF
    simp at hF
    exact hF.1
  | false =>
    cases hI : bsI c len with
    | zero => exact .inl ⟨rfl, rfl⟩
    | succ j => exact .inr ⟨j, by omega, rfl⟩

set_option maxHeartbeats 8000000 in
set_option maxRecDepth 100000 in
theorem pointerAt8 (x : Int) (n : Nat) (t : Tr n) (g0 : Nat) (w : World) (hO : OutV w 0 n g0 t) (hwt : weight n t ≤ 1048576) (htab : Lib.TabIs Tryd.prog w tabName .u64 Lib.pow10Tab) :
    Calls Tryd.prog 8 #[.pointer (some ⟨g0, 0, none⟩), .int .i64 x] w (Ans8 (ptAt x n t) w) := by
  obtain ⟨i9, hi9, hz0, hz1, hz2⟩ := info_parts info9
  have HO := hide hO
  have HWT := hide hwt
  have HTAB := hide htab
  clear hO hwt htab
  go_enter Tryd.func8, Tryd.ntmps8
  go_wp2_with fail
  go_loopg [0, 6] n (fun m s0 s6 wr => At8 x w t m s0 s6 wr)
  case atStart => exact ⟨t, g0, [], rfl, unhide HO, by simp, World.ownsRow_nil _ _ _ _, Below.refl _ _, by have := unhide HWT; simp [ptBound]; omega⟩
  case round =>
    obtain ⟨tm, gm, T, rfl, hOm, hpt, hown, hbw, hbd⟩ := hrel
    cases gk with
    | zero => exact hOm.elim
    | succ m =>
      obtain ⟨_, hgz, b, s1, s2, ea, el, ec, ma, ml, mc, hC, hE, hM⟩ := hOm
      obtain ⟨kind, off, fin, els, mem⟩ := (tm : TrF (Tr m))
      simp only at hC hE hM
      have c0 := (hbw.cell (p := ⟨gm, 0, none⟩) hgz).trans (hC 0 (by simp))
      have c1 := (hbw.cell (p := ⟨gm, 1, none⟩) hgz).trans (hC 1 (by simp))
      have c6 := (hbw.cell (p := ⟨gm, 6, none⟩) hgz).trans (hC 6 (by simp))
      have c7 := (hbw.cell (p := ⟨gm, 7, none⟩) hgz).trans (hC 7 (by simp))
      simp only [List.getElem?_cons_zero, List.getElem?_cons_succ] at c0 c1 c6 c7
      obtain ⟨a6, cap6, rfl, hsr, hlt6⟩ := own_strs hown
      have hel : el ≤ 1048576 := by have := weight_els (n := m) ⟨kind, off, fin, els, mem⟩; have := hE.1; simp only at *; omega
      have hml : ml ≤ 1048576 := by have := weight_mem (n := m) ⟨kind, off, fin, els, mem⟩; have := hM.1; simp only at *; omega
      have HPT := hide hpt
      have HOWN := hide hown
      have HBD := hide hbd
      have HSR := hide hsr
      have HE := hide hE
      have HM := hide hM
      have HLT6 := hide hlt6
      clear hC hE hM hpt hown hbd hsr hlt6
      by_cases hox : off = x
      · subst hox
        go_wp2_with (first | (go_at_call 20; refine (pointer20 a6 cap6 T _ (unhide HSR) (by have := unhide HBD; omega)).mono ?_; rintro _ w2 ⟨rfl, hb2⟩))
        go_ret2
        have e : ptAt off n t = some T := by rw [unhide HPT]; simp [ptAt, ptStep]
        rw [e]
        exact ⟨rfl, hbw.trans (hb2.mono hbw.size)⟩
      · by_cases hk4 : kind = 4
        · subst hk4
          have HS := hide (els_sees ((unhide HE).keep (From.of_below hbw) (fun cs x ⟨h, a, c⟩ => (⟨h, a, OutV.keep (From.of_below hbw) m h x c⟩ : ∃ h, cs = [Value.pointer (some ⟨h, 0, none⟩)] ∧ OutV wr 0 m h x))))
          have HLEN := hide (unhide HE).1
          have hcases := search_cases (fun h => cmpI (offAt els h) x) el
          rcases hcases with ⟨hF, hI⟩ | ⟨j, hj, hI⟩
          · have HP : Hid (ptAt x n t = none) := hide (by rw [unhide HPT]; show (ptStep (ptAt x m) x _).map _ = none; rw [ptStep_el_none hox (unhide HLEN) hF hI]; rfl)
            have HF := hide hF
            have HI := hide hI
            clear hF hI
            go_wp2_with (first | (go_at_call 14; refine (bs14' 0 false _ _ _ _ _ _ hel (unhide HS) (by rw [unhide HI]; rfl) (unhide HF)).mono ?_; rintro _ w2 ⟨rfl, rfl⟩))
            go_ret2
            rw [unhide HP]
            exact ⟨rfl, hbw⟩
          · obtain ⟨e, he⟩ : ∃ e, els[j]? = some e := ⟨els[j]'(by have := unhide HLEN; omega), by simp⟩
            obtain ⟨F, hF⟩ : ∃ F, bsF (fun h => cmpI (offAt els h) x) el = F := ⟨_, rfl⟩
            rw [hF] at hI
            have HP : Hid (ptAt x n t = (if finOf m e ≤ x then none else (ptAt x m e).map (tokI j :: ·)).map (T ++ ·)) := hide (by rw [unhide HPT]; show (ptStep (ptAt x m) x _).map _ = _; rw [ptStep_el hox (unhide HLEN) hF hI he])
            have HEJ := hide he
            obtain ⟨ge, o, p, rfl, hgez, hce, hOe⟩ := els_at (unhide HE) he
            have HOE := hide hOe
            have ce := (hbw.cell (p := ⟨ge, o + j, none⟩) hgez).trans hce
            have cf := (hbw.cell (p := ⟨p, 2, none⟩) (out_cells hOe).1).trans (out_cells hOe).2.2
            clear he hce hOe
            have HF := hide hF
            cases F with
            | true =>
              have HI : Hid ((bsI (fun h => cmpI (offAt els h) x) el : Int) = (j : Int)) := hide (by rw [hI]; rfl)
              clear hI hF
              by_cases hfx : finOf m e ≤ x
              · have HQ : Hid (ptAt x n t = none) := hide (by rw [unhide HP, if_pos hfx]; rfl)
                go_wp2_with (first | (go_at_call 14; refine (bs14' (j : Int) true _ _ _ _ _ _ hel (unhide HS) (unhide HI) (unhide HF)).mono ?_; rintro _ w2 ⟨rfl, rfl⟩))
                go_ret2
                rw [unhide HQ]
                exact ⟨rfl, hbw⟩
              · have HQ : Hid (ptAt x n t = (ptAt x m e).map ((T ++ [tokI j]) ++ ·)) := hide (by rw [unhide HP, if_neg hfx, Option.map_map]; congr 1; funext l; simp)
                go_wp2_with (first | (go_at_call 14; refine (bs14' (j : Int) true _ _ _ _ _ _ hel (unhide HS) (unhide HI) (unhide HF)).mono ?_; rintro _ w2 ⟨rfl, rfl⟩))
                have zg : gm < w2.heap.size := Nat.lt_of_lt_of_le hgz hbw.size
                have zge : ge < w2.heap.size := Nat.lt_of_lt_of_le hgez hbw.size
                have HW3 : Hid (ptBound (T ++ [tokI j]) + 2 * weight m e ≤ 2097152) := hide (by
                  have h1 := weight_el (n := m) ⟨4, off, fin, els, mem⟩ e (List.mem_of_getElem? (unhide HEJ))
                  have h2 := unhide HBD
                  have h3 := tokI_size j (by omega)
                  rw [ptBound_append]; omega)
                have HTL : Hid (T.length ≤ 2097152) := hide (by
                  have h1 := sum_ge_len (fun t : ByteArray => 1 + 2 * t.size) 1 T (fun x => by omega)
                  have h2 := unhide HBD
                  unfold ptBound at h2
                  omega)
                have HN6 : Hid (∀ k, k < w.heap.size → some k ≠ (Value.slice a6 T.length cap6).ownBlock) := hide (fun k hk hkk => by have := unhide HLT6 k hkk.symm; omega)
                clear c0 c1 c7 cf
                go_region_held3 (fun w' => w'.cell? ⟨gm, 6, none⟩ = some (.slice (some ⟨ge, o, none⟩) el ec) ∧ w'.cell? ⟨ge, o + j, none⟩ = some (.pointer (some ⟨p, 0, none⟩))) (go_keep)
                  (first | (go_at_call 17; refine (itoaB j (by omega) _ (tab_keep (unhide HTAB) hbw.drew (Nat.le_refl _))).mono ?_; rintro _ w3 ⟨rfl, hb3⟩; have y0 := (hb3.cell (p := ⟨gm, 6, none⟩) zg).trans c6; have y1 := (hb3.cell (p := ⟨ge, o + j, none⟩) zge).trans ce) | (refine step_append_lies _ rfl (.tmp 52) (.tmp 55) 32 rfl w.heap.size 9 i9 (.string ⟨#[]⟩) 1 16 Tryd.underlying32 hi9 hz0 hz1 hz2 rfl (by decide) _ T.length (T.map .string) rfl ((own_keep (unhide HOWN) (((Below.refl _ w2).drew).trans hb3)).alloc _) ⟨w3.heap.size, 0, none⟩ 1 1 [.string (tokI j)] rfl rfl (World.news_of_block (Go.heap_alloc_new w3 _)) (by intro u hu; simp at hu; subst hu; rfl) (by decide) (by have := unhide HTL; unfold maxLen; omega) (by have := unhide HTL; omega) (Nat.le_trans hbw.size (Nat.le_trans hb3.size (by simp))) _ rfl ?_; intro g4 cap4 w4 hown4 hgrow4 hor4 hlt4; have z0 := (hgrow4.cell_far ⟨gm, 6, none⟩ (by simp; have := hb3.size; simp at this; omega) (unhide HN6 gm hgz)).trans ((World.cell?_of_block (heap_alloc_old w3 _ (Nat.lt_of_lt_of_le zg hb3.size))).trans y0); have z1 := (hgrow4.cell_far ⟨ge, o + j, none⟩ (by simp; have := hb3.size; simp at this; omega) (unhide HN6 ge hgez)).trans ((World.cell?_of_block (heap_alloc_old w3 _ (Nat.lt_of_lt_of_le zge hb3.size))).trans y1)))
                go_wp2_with fail
                go_roundg m
                case measure => omega
                case rel =>
                  have hbz := ((hbw.drew.trans (hb3.mono hbw.size)).alloc (Nat.le_trans hbw.size hb3.size) _).grown hgrow4 (Nat.le_trans hbw.size (Nat.le_trans hb3.size (by simp))) (fun k hk => (unhide HLT6 k hk).1)
                  exact ⟨e, p, T ++ [tokI j], rfl, unhide HOE, unhide HQ, by rw [List.length_append, List.map_append]; exact hown4, hbz, unhide HW3⟩
            | false =>
              have HI : Hid ((bsI (fun h => cmpI (offAt els h) x) el : Int) = ((j : Int) + 1)) := hide (by rw [hI]; rfl)
              clear hI hF
              by_cases hfx : finOf m e ≤ x
              · have HQ : Hid (ptAt x n t = none) := hide (by rw [unhide HP, if_pos hfx]; rfl)
                go_wp2_with (first | (go_at_call 14; refine (bs14' ((j : Int) + 1) false _ _ _ _ _ _ hel (unhide HS) (unhide HI) (unhide HF)).mono ?_; rintro _ w2 ⟨rfl, rfl⟩))
                go_ret2
                rw [unhide HQ]
                exact ⟨rfl, hbw⟩
              · have HQ : Hid (ptAt x n t = (ptAt x m e).map ((T ++ [tokI j]) ++ ·)) := hide (by rw [unhide HP, if_neg hfx, Option.map_map]; congr 1; funext l; simp)
                go_wp2_with (first | (go_at_call 14; refine (bs14' ((j : Int) + 1) false _ _ _ _ _ _ hel (unhide HS) (unhide HI) (unhide HF)).mono ?_; rintro _ w2 ⟨rfl, rfl⟩))
                have zg : gm < w2.heap.size := Nat.lt_of_lt_of_le hgz hbw.size
                have zge : ge < w2.heap.size := Nat.lt_of_lt_of_le hgez hbw.size
                have HW3 : Hid (ptBound (T ++ [tokI j]) + 2 * weight m e ≤ 2097152) := hide (by
                  have h1 := weight_el (n := m) ⟨4, off, fin, els, mem⟩ e (List.mem_of_getElem? (unhide HEJ))
                  have h2 := unhide HBD
                  have h3 := tokI_size j (by omega)
                  rw [ptBound_append]; omega)
                have HTL : Hid (T.length ≤ 2097152) := hide (by
                  have h1 := sum_ge_len (fun t : ByteArray => 1 + 2 * t.size) 1 T (fun x => by omega)
                  have h2 := unhide HBD
                  unfold ptBound at h2
                  omega)
                have HN6 : Hid (∀ k, k < w.heap.size → some k ≠ (Value.slice a6 T.length cap6).ownBlock) := hide (fun k hk hkk => by have := unhide HLT6 k hkk.symm; omega)
                clear c0 c1 c7 cf
                go_region_held3 (fun w' => w'.cell? ⟨gm, 6, none⟩ = some (.slice (some ⟨ge, o, none⟩) el ec) ∧ w'.cell? ⟨ge, o + j, none⟩ = some (.pointer (some ⟨p, 0, none⟩))) (go_keep)
                  (first | (go_at_call 17; refine (itoaB j (by omega) _ (tab_keep (unhide HTAB) hbw.drew (Nat.le_refl _))).mono ?_; rintro _ w3 ⟨rfl, hb3⟩; have y0 := (hb3.cell (p := ⟨gm, 6, none⟩) zg).trans c6; have y1 := (hb3.cell (p := ⟨ge, o + j, none⟩) zge).trans ce) | (refine step_append_lies _ rfl (.tmp 52) (.tmp 55) 32 rfl w.heap.size 9 i9 (.string ⟨#[]⟩) 1 16 Tryd.underlying32 hi9 hz0 hz1 hz2 rfl (by decide) _ T.length (T.map .string) rfl ((own_keep (unhide HOWN) (((Below.refl _ w2).drew).trans hb3)).alloc _) ⟨w3.heap.size, 0, none⟩ 1 1 [.string (tokI j)] rfl rfl (World.news_of_block (Go.heap_alloc_new w3 _)) (by intro u hu; simp at hu; subst hu; rfl) (by decide) (by have := unhide HTL; unfold maxLen; omega) (by have := unhide HTL; omega) (Nat.le_trans hbw.size (Nat.le_trans hb3.size (by simp))) _ rfl ?_; intro g4 cap4 w4 hown4 hgrow4 hor4 hlt4; have z0 := (hgrow4.cell_far ⟨gm, 6, none⟩ (by simp; have := hb3.size; simp at this; omega) (unhide HN6 gm hgz)).trans ((World.cell?_of_block (heap_alloc_old w3 _ (Nat.lt_of_lt_of_le zg hb3.size))).trans y0); have z1 := (hgrow4.cell_far ⟨ge, o + j, none⟩ (by simp; have := hb3.size; simp at this; omega) (unhide HN6 ge hgez)).trans ((World.cell?_of_block (heap_alloc_old w3 _ (Nat.lt_of_lt_of_le zge hb3.size))).trans y1)))
                go_wp2_with fail
                go_roundg m
                case measure => omega
                case rel =>
                  have hbz := ((hbw.drew.trans (hb3.mono hbw.size)).alloc (Nat.le_trans hbw.size hb3.size) _).grown hgrow4 (Nat.le_trans hbw.size (Nat.le_trans hb3.size (by simp))) (fun k hk => (unhide HLT6 k hk).1)
                  exact ⟨e, p, T ++ [tokI j], rfl, unhide HOE, unhide HQ, by rw [List.length_append, List.map_append]; exact hown4, hbz, unhide HW3⟩
        · by_cases hk5 : kind = 5
          · subst hk5
            have HS := hide (mem_sees ((unhide HM).keep (From.of_below hbw) (fun cs m' ⟨h, a, c⟩ => (⟨h, a, OutV.keep (From.of_below hbw) m h m'.val c⟩ : ∃ h, cs = [Value.string m'.name, .int .i64 m'.off, .pointer (some ⟨h, 0, none⟩)] ∧ OutV wr 0 m h m'.val))))
            have HLEN := hide (unhide HM).1
            have hcases := search_cases (fun h => cmpI (moffAt mem h) x) ml
            rcases hcases with ⟨hF, hI⟩ | ⟨j, hj, hI⟩
            · have HP : Hid (ptAt x n t = none) := hide (by rw [unhide HPT]; show (ptStep (ptAt x m) x _).map _ = none; rw [ptStep_me_none hox (unhide HLEN) hF hI]; rfl)
              have HF := hide hF
              have HI := hide hI
              clear hF hI
              go_wp2_with (first | (go_at_call 18; refine (bs18' 0 false _ _ _ _ _ _ hml (unhide HS) (by rw [unhide HI]; rfl) (unhide HF)).mono ?_; rintro _ w2 ⟨rfl, hb2⟩))
              go_ret2
              rw [unhide HP]
              exact ⟨rfl, hbw.trans (hb2.mono hbw.size)⟩
            · obtain ⟨e, he⟩ : ∃ e, mem[j]? = some e := ⟨mem[j]'(by have := unhide HLEN; omega), by simp⟩
              obtain ⟨F, hF⟩ : ∃ F, bsF (fun h => cmpI (moffAt mem h) x) ml = F := ⟨_, rfl⟩
              rw [hF] at hI
              have HEJ := hide he
              obtain ⟨ge, o, p, rfl, hgez, hcn, hcp, hOe⟩ := mem_at (unhide HM) he
              have HOE := hide hOe
              have cn := (hbw.cell (p := ⟨ge, o + j * 3, none⟩) hgez).trans hcn
              have ce := (hbw.cell (p := ⟨ge, o + j * 3 + 2, none⟩) hgez).trans hcp
              have hpz := (out_cells hOe).1
              have cf := (hbw.cell (p := ⟨p, 2, none⟩) (out_cells hOe).1).trans (out_cells hOe).2.2
              clear hcn hcp hOe
              have HF := hide hF
              have HW3 : Hid (ptBound (T ++ [e.name]) + 2 * weight m e.val ≤ 2097152) := hide (by
                have h1 := weight_me (n := m) ⟨5, off, fin, els, mem⟩ e (List.mem_of_getElem? (unhide HEJ))
                have h2 := unhide HBD
                rw [ptBound_append]; omega)
              have HTL : Hid (T.length ≤ 2097152) := hide (by
                have h1 := sum_ge_len (fun t : ByteArray => 1 + 2 * t.size) 1 T (fun x => by omega)
                have h2 := unhide HBD
                unfold ptBound at h2
                omega)
              have HN6 : Hid (∀ k, k < w.heap.size → some k ≠ (Value.slice a6 T.length cap6).ownBlock) := hide (fun k hk hkk => by have := unhide HLT6 k hkk.symm; omega)
              have zg : gm < wr.heap.size := Nat.lt_of_lt_of_le hgz hbw.size
              have zge : ge < wr.heap.size := Nat.lt_of_lt_of_le hgez hbw.size
              have zp : p < wr.heap.size := Nat.lt_of_lt_of_le hpz hbw.size
              cases F with
              | true =>
                have HI : Hid ((bsI (fun h => cmpI (moffAt mem h) x) ml : Int) = (j : Int)) := hide (by rw [hI]; rfl)
                have HP : Hid (ptAt x n t = some (T ++ [e.name])) := hide (by rw [unhide HPT]; show (ptStep (ptAt x m) x _).map _ = _; rw [ptStep_me_found hox (unhide HLEN) hF hI he]; rfl)
                clear hI hF he
                go_wp2_with (first | (go_at_call 18; refine (bs18' (j : Int) true _ _ _ _ _ _ hml (unhide HS) (unhide HI) (unhide HF)).mono ?_; rintro _ w2 ⟨rfl, hb2⟩; have y7 := (hb2.cell (p := ⟨gm, 7, none⟩) zg).trans c7; have yn := (hb2.cell (p := ⟨ge, o + j * 3, none⟩) zge).trans cn) | (at_builtin; refine wpList_append_lies _ rfl (.tmp 76) (.tmp 85) 32 rfl w.heap.size 9 i9 (.string ⟨#[]⟩) 1 16 Tryd.underlying32 hi9 hz0 hz1 hz2 rfl (by decide) _ T.length (T.map .string) rfl ((own_keep (unhide HOWN) hb2).alloc _) ⟨w2.heap.size, 0, none⟩ 1 1 [.string e.name] rfl rfl (World.news_of_block (Go.heap_alloc_new w2 _)) (by intro u hu; simp at hu; subst hu; rfl) (by decide) (by have := unhide HTL; unfold maxLen; omega) (by have := unhide HTL; omega) (Nat.le_trans hbw.size (Nat.le_trans hb2.size (by simp))) _ rfl ?_; intro g4 cap4 w4 hown4 hgrow4 hor4 hlt4) | (go_at_call 20; refine (pointer20' hown4 (by have := unhide HW3; omega)).mono ?_; rintro _ w5 ⟨rfl, hb5⟩))
                go_ret2
                rw [unhide HP]
                have hb4 := ((hbw.trans (hb2.mono hbw.size)).alloc (Nat.le_trans hbw.size hb2.size) _).grown hgrow4 (Nat.le_trans hbw.size (Nat.le_trans hb2.size (by simp))) (fun k hk => (unhide HLT6 k hk).1)
                exact ⟨rfl, hb4.trans (hb5.mono hb4.size)⟩
              | false =>
                have HI : Hid ((bsI (fun h => cmpI (moffAt mem h) x) ml : Int) = (j : Int) + 1) := hide (by rw [hI]; rfl)
                have HP : Hid (ptAt x n t = (if finOf m e.val ≤ x then none else (ptAt x m e.val).map (e.name :: ·)).map (T ++ ·)) := hide (by rw [unhide HPT]; show (ptStep (ptAt x m) x _).map _ = _; rw [ptStep_me hox (unhide HLEN) hF hI he])
                clear hI hF he
                by_cases hfx : finOf m e.val ≤ x
                · have HQ : Hid (ptAt x n t = none) := hide (by rw [unhide HP, if_pos hfx]; rfl)
                  go_wp2_with (first | (go_at_call 18; refine (bs18' ((j : Int) + 1) false _ _ _ _ _ _ hml (unhide HS) (unhide HI) (unhide HF)).mono ?_; rintro _ w2 ⟨rfl, hb2⟩; have y7 := (hb2.cell (p := ⟨gm, 7, none⟩) zg).trans c7; have yp := (hb2.cell (p := ⟨ge, o + j * 3 + 2, none⟩) zge).trans ce; have yf := (hb2.cell (p := ⟨p, 2, none⟩) zp).trans cf))
                  go_ret2
                  rw [unhide HQ]
                  exact ⟨rfl, hbw.trans (hb2.mono hbw.size)⟩
                · have HQ : Hid (ptAt x n t = (ptAt x m e.val).map ((T ++ [e.name]) ++ ·)) := hide (by rw [unhide HP, if_neg hfx, Option.map_map]; congr 1; funext l; simp)
                  go_wp2_with (first | (go_at_call 18; refine (bs18' ((j : Int) + 1) false _ _ _ _ _ _ hml (unhide HS) (unhide HI) (unhide HF)).mono ?_; rintro _ w2 ⟨rfl, hb2⟩; have y7 := (hb2.cell (p := ⟨gm, 7, none⟩) zg).trans c7; have yn := (hb2.cell (p := ⟨ge, o + j * 3, none⟩) zge).trans cn; have yp := (hb2.cell (p := ⟨ge, o + j * 3 + 2, none⟩) zge).trans ce; have yf := (hb2.cell (p := ⟨p, 2, none⟩) zp).trans cf))
                  clear c0 c1 c6 c7 cf cn ce yf
                  have zg2 : gm < w2.heap.size := Nat.lt_of_lt_of_le zg hb2.size
                  have zge2 : ge < w2.heap.size := Nat.lt_of_lt_of_le zge hb2.size
                  go_region_held3 (fun w' => w'.cell? ⟨gm, 7, none⟩ = some (.slice (some ⟨ge, o, none⟩) ml mc) ∧ w'.cell? ⟨ge, o + j * 3, none⟩ = some (.string e.name) ∧ w'.cell? ⟨ge, o + j * 3 + 2, none⟩ = some (.pointer (some ⟨p, 0, none⟩))) (go_keep)
                    (first | (refine step_append_lies _ rfl (.tmp 107) (.tmp 116) 32 rfl w.heap.size 9 i9 (.string ⟨#[]⟩) 1 16 Tryd.underlying32 hi9 hz0 hz1 hz2 rfl (by decide) _ T.length (T.map .string) rfl ((own_keep (unhide HOWN) hb2.drew).alloc _) ⟨w2.heap.size, 0, none⟩ 1 1 [.string e.name] rfl rfl (World.news_of_block (Go.heap_alloc_new w2.drew _)) (by intro u hu; simp at hu; subst hu; rfl) (by decide) (by have := unhide HTL; unfold maxLen; omega) (by have := unhide HTL; omega) (Nat.le_trans hbw.size (Nat.le_trans hb2.size (by simp))) _ rfl ?_; intro g4 cap4 w4 hown4 hgrow4 hor4 hlt4; have z0 := (hgrow4.cell_far ⟨gm, 7, none⟩ (by simp; omega) (unhide HN6 gm hgz)).trans ((World.cell?_of_block (heap_alloc_old w2.drew _ zg2)).trans y7); have z1 := (hgrow4.cell_far ⟨ge, o + j * 3, none⟩ (by simp; omega) (unhide HN6 ge hgez)).trans ((World.cell?_of_block (heap_alloc_old w2.drew _ zge2)).trans yn); have z2 := (hgrow4.cell_far ⟨ge, o + j * 3 + 2, none⟩ (by simp; omega) (unhide HN6 ge hgez)).trans ((World.cell?_of_block (heap_alloc_old w2.drew _ zge2)).trans yp)))
                  go_wp2_with fail
                  go_roundg m
                  case measure => omega
                  case rel =>
                    have hbz := (((hbw.trans (hb2.mono hbw.size)).drew).alloc (Nat.le_trans hbw.size hb2.size) _).grown hgrow4 (Nat.le_trans hbw.size (Nat.le_trans hb2.size (by simp))) (fun k hk => (unhide HLT6 k hk).1)
                    exact ⟨e.val, p, T ++ [e.name], rfl, unhide HOE, unhide HQ, by rw [List.length_append, List.map_append]; exact hown4, hbz, unhide HW3⟩
          · have HP : Hid (ptAt x n t = none) := hide (by rw [unhide HPT]; show (ptStep (ptAt x m) x _).map _ = none; rw [ptStep_other hox hk4 hk5]; rfl)
            go_wp2_with fail
            go_ret2
            rw [unhide HP]
            exact ⟨rfl, hbw⟩

end Go.Proofs.Qxb6630533aDoor
