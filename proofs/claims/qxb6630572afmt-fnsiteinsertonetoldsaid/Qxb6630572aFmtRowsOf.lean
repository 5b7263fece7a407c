/-
  PLAIN LAWS on rows of sites: what is owned stays owned; a row of cells read as sites; the lookup in a list with one site put in, and in two lists joined.
-/
import Derived.Test.Qxb6630572aFmtSite
namespace Go.Proofs.Qxb6630572aFmt
open Go.RowKit

theorem own_below {w w' : World} {base : Nat} {e : TypeId} {k : Nat} {v : Value} {n : Nat} {xs : List Value} (h : w.ownsRow base e k v n xs) (hb : Below w.heap.size w w') : w'.ownsRow base e k v n xs := by
  obtain ⟨h1, h2⟩ := h
  refine ⟨h1, ?_⟩
  rcases h2 with h2 | ⟨g, cap, cur, hv, hg, hh, r⟩
  · exact .inl h2
  · exact .inr ⟨g, cap, cur, hv, hg, (hb.block g (lt_of_block hh)).trans hh, r⟩

theorem news3 (w : World) (s : St) : ∀ j u, s.cells[j]? = some u → (w.alloc (.cells #[.int .i64 s.id, .string s.a, .string s.b] 30)).cell? ((⟨w.heap.size, 0, none⟩ : Addr).add j) = some u := by
  intro j u hu
  rw [Addr.add_lit, World.cell?_alloc_at _ _ _ _ rfl]
  have hj : j < 3 := by have := (List.getElem?_eq_some_iff.1 hu).1; simpa [St.cells] using this
  obtain rfl | rfl | rfl : j = 0 ∨ j = 1 ∨ j = 2 := by omega
  all_goals (simp [St.cells] at hu; simp [hu])

theorem cells_one (s : St) : ∀ u ∈ s.cells, u.oneCell' = true := by
  intro u hu
  simp [St.cells] at hu
  rcases hu with rfl | rfl | rfl <;> rfl

theorem flat_at (L : List St) (i : Nat) (s : St) (h : L[i]? = some s) : (L.flatMap St.cells)[i * 3]? = some (.int .i64 s.id) ∧ (L.flatMap St.cells)[i * 3 + 1]? = some (.string s.a) ∧ (L.flatMap St.cells)[i * 3 + 2]? = some (.string s.b) := by
  induction L generalizing i with
  | nil => simp at h
  | cons x r ih =>
    cases i with
    | zero => simp at h; subst h; simp [St.cells]
    | succ i =>
      have h' : r[i]? = some s := by simpa using h
      obtain ⟨e0, e1, e2⟩ := ih i h'
      rw [List.flatMap_cons]
      have hl : x.cells.length = 3 := rfl
      refine ⟨?_, ?_, ?_⟩
      · rw [List.getElem?_append_right (by omega), hl, show (i + 1) * 3 - 3 = i * 3 by omega]; exact e0
      · rw [List.getElem?_append_right (by omega), hl, show (i + 1) * 3 + 1 - 3 = i * 3 + 1 by omega]; exact e1
      · rw [List.getElem?_append_right (by omega), hl, show (i + 1) * 3 + 2 - 3 = i * 3 + 2 by omega]; exact e2

theorem row_of_own {w : World} {base g n cap : Nat} {L : List St} (h : w.ownsRow base 30 3 (.slice (some ⟨g, 0, none⟩) n cap) n (L.flatMap St.cells)) (hL : L.length = n) : Row w (some ⟨g, 0, none⟩) n L := by
  refine ⟨hL, ?_⟩
  by_cases h0 : n = 0
  · exact .inl h0
  have hcell : ∀ j, j < n * 3 → w.cell? ⟨g, j, none⟩ = (L.flatMap St.cells)[j]? := fun j hj => h.cellAt j hj
  have hg : g < w.heap.size := by
    obtain ⟨_, ⟨h', _⟩ | ⟨g', cap', cur, hv, _, hh, _⟩⟩ := h
    · cases h'
    · simp only [Value.slice.injEq, Option.some.injEq, Addr.mk.injEq, and_true, true_and] at hv
      rw [hv.1]; exact lt_of_block hh
  refine .inr ⟨g, 0, rfl, hg, fun i s hs => ?_⟩
  have hi : i < n := by have := (List.getElem?_eq_some_iff.1 hs).1; omega
  obtain ⟨e0, e1, e2⟩ := flat_at L i s hs
  refine ⟨?_, ?_, ?_⟩
  · rw [Nat.zero_add, hcell _ (by omega)]; exact e0
  · rw [Nat.zero_add, hcell _ (by omega)]; exact e1
  · rw [Nat.zero_add, hcell _ (by omega)]; exact e2

theorem flat_take_succ {ss : List St} {k : Nat} {s : St} (h : ss[k]? = some s) : (ss.take k).flatMap St.cells ++ s.cells = (ss.take (k + 1)).flatMap St.cells := by
  have hk := (List.getElem?_eq_some_iff.1 h).1
  have e : ss[k] = s := (List.getElem?_eq_some_iff.1 h).2
  rw [List.take_succ_eq_append_getElem hk, List.flatMap_append, e]
  simp [List.flatMap]

/-- What (*Cluster).Site handed back: the first site that bears id and no error, or the zero site and an error. -/
def Res (ss : List St) (id : Int) (r : St) (err : Value) : Prop :=
  (ss.find? (fun s => s.id == id) = some r ∧ err = .nilIface) ∨ (ss.find? (fun s => s.id == id) = none ∧ r = zeroSt ∧ ∃ p, err = .iface 49 (.pointer p))

theorem Answers.res {ss : List St} {id : Int} {w w' : World} {e : Ending} (h : Answers ss id w e w') :
    ∃ (r : St) (err : Value), e = .returned (.tuple #[.agg #[.int .i64 r.id, .string r.a, .string r.b], err]) ∧ Res ss id r err ∧ Below w.heap.size w w' := by
  obtain ⟨h1, hb⟩ := h
  cases hf : ss.find? (fun s => s.id == id) with
  | some s => rw [hf] at h1; exact ⟨s, _, h1, .inl ⟨hf, rfl⟩, hb⟩
  | none => rw [hf] at h1; obtain ⟨p, h1⟩ := h1; exact ⟨zeroSt, _, h1, .inr ⟨hf, rfl, p, rfl⟩, hb⟩

theorem find_insert_ne {ss : List St} {p : Nat} {x : St} {id : Int} (h : (x.id == id) = false) : (ss.take p ++ x :: ss.drop p).find? (fun s => s.id == id) = ss.find? (fun s => s.id == id) := by
  have e : ss.find? (fun s => s.id == id) = (ss.take p ++ ss.drop p).find? (fun s => s.id == id) := by rw [List.take_append_drop]
  rw [e, List.find?_append, List.find?_append, List.find?_cons]
  simp [h]

theorem find_insert_eq {ss : List St} {p : Nat} {x : St} {id : Int} (h : (x.id == id) = true) : (ss.take p ++ x :: ss.drop p).find? (fun s => s.id == id) = some (((ss.take p).find? (fun s => s.id == id)).getD x) := by
  rw [List.find?_append, List.find?_cons]
  simp only [h]
  cases (ss.take p).find? (fun s => s.id == id) <;> rfl

theorem find_id {ss : List St} {id : Int} {s : St} (h : ss.find? (fun s => s.id == id) = some s) : (s.id == id) = true := by
  have := List.find?_some (p := fun s : St => s.id == id) h
  exact this

theorem slice_to (a : Option Addr) (len cap P : Nat) (hP : P ≤ cap) (hn : a = none → cap = 0) (w : World) : (Instr.slice 22 (.slice a len cap) none (some (.int .i64 P)) none).run Tryf.prog w = .ok (.slice a P cap) w := by
  cases a with
  | none =>
    obtain rfl := hn rfl
    obtain rfl : P = 0 := by omega
    go_simp
  | some ad =>
    have h0 : (0 : Int) ≤ P := by omega
    have h1 : (P : Int) ≤ cap := by omega
    clear hn
    go_simp

theorem Row.take {w : World} {a : Option Addr} {len : Nat} {ss : List St} (h : Row w a len ss) (P : Nat) (hP : P ≤ len) : Row w a P (ss.take P) := by
  obtain ⟨hl, h | ⟨g, o, ha, hg, hc⟩⟩ := h
  · exact ⟨by rw [List.length_take]; omega, .inl (by omega)⟩
  · refine ⟨by rw [List.length_take]; omega, .inr ⟨g, o, ha, hg, fun i s hs => hc i s ?_⟩⟩
    rw [List.getElem?_take] at hs
    split at hs
    · exact hs
    · cases hs

/-- The list as it stands while it is built: the first p, x, and what follows up to k. -/
def putIn (ss : List St) (x : St) (P k : Nat) : List St := ss.take P ++ x :: (ss.take k).drop P
theorem putIn_start (ss : List St) (x : St) (P : Nat) : (ss.take P).flatMap St.cells ++ x.cells = (putIn ss x P P).flatMap St.cells := by
  unfold putIn
  rw [List.drop_eq_nil_of_le (by rw [List.length_take]; omega), List.flatMap_append]
  simp [List.flatMap]
theorem putIn_step {ss : List St} {x s : St} {P k : Nat} (h : ss[k]? = some s) (hP : P ≤ k) : (putIn ss x P k).flatMap St.cells ++ s.cells = (putIn ss x P (k + 1)).flatMap St.cells := by
  have hk := (List.getElem?_eq_some_iff.1 h).1
  have e : ss[k] = s := (List.getElem?_eq_some_iff.1 h).2
  have e1 : (ss.take (k + 1)).drop P = (ss.take k).drop P ++ [s] := by
    rw [List.take_succ_eq_append_getElem hk, List.drop_append_of_le_length (by rw [List.length_take]; omega), e]
  unfold putIn
  rw [e1, List.flatMap_append, List.flatMap_append, List.flatMap_cons, List.flatMap_cons, List.flatMap_append]
  simp [List.flatMap]
theorem putIn_end (ss : List St) (x : St) (P : Nat) : putIn ss x P ss.length = ss.take P ++ x :: ss.drop P := by
  unfold putIn
  rw [List.take_length]

open Go.Extern.Stop Go.Stop Go.Extern in
/-- A lookup in a cluster that was boxed just before. -/
theorem lookup (F : Interp) (n : Nat) (a : Option Addr) (len cap : Nat) (ss : List St) (id : Int) (w : World) (hn : n = w.heap.size) (hF : F.answers w.tape) (hr : Row w a len ss) (hlen : len ≤ 4194304) :
    Calls Tryf.prog 9 #[.pointer (some ⟨n, 0, none⟩), .int .i64 id] (w.alloc (.cells #[.slice a len cap] 36)) fun e w' =>
      ∃ (r : St) (err : Value), e = .returned (.tuple #[.agg #[.int .i64 r.id, .string r.a, .string r.b], err]) ∧ Res ss id r err ∧ Below w.heap.size w w' ∧ n < w'.heap.size := by
  subst hn
  have hb0 : Below w.heap.size w (w.alloc (.cells #[.slice a len cap] 36)) := (Below.refl _ _).alloc (Nat.le_refl _) _
  refine (site9 F w.heap.size 0 a len cap ss id (w.alloc (.cells #[.slice a len cap] 36)) hF (World.cell?_alloc_at _ _ _ _ rfl) (by simp) (hr.below hb0) hlen).mono ?_
  intro e w' h
  obtain ⟨r, err, he, hres, hb⟩ := h.res
  exact ⟨r, err, he, hres, hb0.trans (hb.mono hb0.size), by have := hb.size; simp at this; omega⟩

theorem at_new (w : World) (s : St) (n : Nat) (hn : n = w.heap.size) : At (w.alloc (.cells #[.int .i64 s.id, .string s.a, .string s.b] 30)) n 0 s := by
  subst hn
  exact ⟨World.cell?_alloc_at _ _ _ _ rfl, World.cell?_alloc_at _ _ _ _ rfl, World.cell?_alloc_at _ _ _ _ rfl⟩

end Go.Proofs.Qxb6630572aFmt
