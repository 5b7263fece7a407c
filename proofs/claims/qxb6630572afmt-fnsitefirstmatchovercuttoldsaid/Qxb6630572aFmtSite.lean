/-
  THE CONTRACT of (*cluster.Cluster).Site over fmt's stopped front: closed facts for the one format, then the walk.
-/
import Derived.Test.Qxb6630572aFmtCallees
import Derived.Stop.CallBack
import Derived.Stop.IfaceNil
import GoSem.ClaimData
namespace Go.Proofs.Qxb6630572aFmt
open Go.RowKit Go.Extern.Stop Go.Stop Go.Extern

theorem call17 (args : Array Value) (w : World) : (callFunc 17 args).run Tryf.prog w = ((FmtStop.errorf #[9, 46] #[32] args).run Tryf.prog w).andThen fun v w' => .ok (.value v) w' :=
  run_callFunc_extern Tryf.func17 (by kernel_rfl) (by kernel_rfl) (by kernel_rfl) (by kernel_rfl) args w
theorem fguard (name : String) (w : World) : (FmtStop.guard name).run Tryf.prog w = .ok () w := by kernel_rfl
theorem fmt0 : FmtStop.printed? ⟨#[116, 104, 101, 32, 99, 108, 117, 115, 116, 101, 114, 32, 104, 97, 115, 32, 110, 111, 32, 115, 105, 116, 101, 32, 37, 100]⟩ 1 = some [(0, 100, false)] := by kernel_rfl
theorem fmt0r (w : World) : (FmtDoors.printed ⟨#[116, 104, 101, 32, 99, 108, 117, 115, 116, 101, 114, 32, 104, 97, 115, 32, 110, 111, 32, 115, 105, 116, 101, 32, 37, 100]⟩ 1).run Tryf.prog w = .ok [(0, 100, false)] w := by kernel_rfl
def shape3 : List UInt8 := [5, 3, 0, 0, 0, 0, 0, 0, 0, 105, 110, 116]
theorem op3_100 (name : String) (x : Int) (w : World) : (FmtStop.operand name false 100 false (.iface 3 (.int .i64 x))).run Tryf.prog w = .ok (shape3, Go.Extern.Stop.digits 8 (x % 2 ^ 64).toNat) w := by kernel_rfl
theorem op3_100w (name : String) (x : Int) (w : World) : (FmtStop.operand name true 100 false (.iface 3 (.int .i64 x))).run Tryf.prog w = .ok (shape3, Go.Extern.Stop.digits 8 (x % 2 ^ 64).toNat) w := by kernel_rfl
theorem ptr49 (w : World) : (FmtStop.ptrTo "errors.errorString").run Tryf.prog w = .ok 49 w := by kernel_rfl
theorem elem49 (w : World) : (elemOf 49).run Tryf.prog w = .ok 51 w := by kernel_rfl
theorem isError49' (w : World) : (FmtDoors.textMethod 49 "Error").run Tryf.prog w = .ok true w := by kernel_rfl

attribute [local go_sem] call17 fguard fmt0 fmt0r op3_100 op3_100w ptr49 elem49 isError49'

/-- fmt.Errorf hands back an error that is not nil. -/
theorem errorf15 (F : Interp) (b c : Nat) (id : Int) (w : World) (hF : F.answers w.tape) (hc : w.cell? ⟨b, 0, none⟩ = some (.iface 3 (.int .i64 id))) :
    Calls Tryf.prog 15 #[.string ⟨#[116, 104, 101, 32, 99, 108, 117, 115, 116, 101, 114, 32, 104, 97, 115, 32, 110, 111, 32, 115, 105, 116, 101, 32, 37, 100]⟩, .slice (some ⟨b, 0, none⟩) 1 c] w fun e w' => ∃ p, e = .returned (.iface 49 (.pointer p)) ∧ Below w.heap.size w w' := by
  have hF' : ∀ i name reading k range, w.tape i (.extern (word name reading k) range) = F name reading k := hF
  go_enter Tryf.func15, Tryf.ntmps15
  go_wp2
  go_ret
  exact ⟨_, rfl, ((Below.refl _ _).alloc (Nat.le_refl _) _).drew⟩

theorem zero_block {w w' : World} {G : Nat} {c : Array Value} {t : TypeId} (h : w.heap[G]? = some (.cells c t (0, 0))) (hb : Below w.heap.size w w') : w'.heap[G]? = some (.cells c t (0, 0)) :=
  (hb.block G (lt_of_block h)).trans h

/-- No site of the list bears id. -/
def Lacks (ss : List St) (k : Nat) (id : Int) : Prop := ∀ i s, i < k → ss[i]? = some s → (s.id == id) = false

theorem lacks_succ {ss : List St} {k : Nat} {id : Int} {s : St} (h : Lacks ss k id) (hs : ss[k]? = some s) (hn : (s.id == id) = false) : Lacks ss (k + 1) id := by
  intro i u hi hu
  by_cases e : i = k
  · subst e; rw [hs] at hu; obtain rfl := Option.some.inj hu; exact hn
  · exact h i u (by omega) hu

/-- What (*Cluster).Site answers: the first site that bears id, or the zero site and an error. -/
def Answers (ss : List St) (id : Int) (w : World) (e : Ending) (w' : World) : Prop :=
  (match ss.find? (fun s => s.id == id) with
   | some s => e = .returned (.tuple #[.agg #[.int .i64 s.id, .string s.a, .string s.b], .nilIface])
   | none => ∃ p, e = .returned (.tuple #[.agg #[.int .i64 0, .string ⟨#[]⟩, .string ⟨#[]⟩], .iface 49 (.pointer p)])) ∧ Below w.heap.size w w'

theorem find_at {ss : List St} {k : Nat} {id : Int} {s : St} (h : Lacks ss k id) (hs : ss[k]? = some s) (hid : (s.id == id) = true) : ss.find? (fun s => s.id == id) = some s := by
  induction ss generalizing k with
  | nil => simp at hs
  | cons x r ih =>
    cases k with
    | zero => simp at hs; subst hs; simp [List.find?, hid]
    | succ k =>
      have hx := h 0 x (by omega) rfl
      rw [List.find?_cons]
      simp only [hx]
      exact ih (k := k) (fun i u hi hu => h (i + 1) u (by omega) (by simpa using hu)) (by simpa using hs)

theorem find_none {ss : List St} {k : Nat} {id : Int} (h : Lacks ss k id) (hk : ss.length ≤ k) : ss.find? (fun s => s.id == id) = none := by
  rw [List.find?_eq_none]
  intro s hs
  obtain ⟨i, hi, rfl⟩ := List.mem_iff_getElem.1 hs
  have := h i ss[i] (by omega) (by simp)
  simpa using this

theorem answers_yes {ss : List St} {k : Nat} {id : Int} {s : St} {w w' : World} (h : Lacks ss k id) (hs : ss[k]? = some s) (hid : (s.id == id) = true) (hb : Below w.heap.size w w') :
    Answers ss id w (.returned (.tuple #[.agg #[.int .i64 s.id, .string s.a, .string s.b], .nilIface])) w' := by
  refine ⟨?_, hb⟩
  rw [find_at h hs hid]

theorem answers_no {ss : List St} {k : Nat} {id : Int} {w w' : World} {p : Option Addr} (h : Lacks ss k id) (hk : ss.length ≤ k) (hb : Below w.heap.size w w') :
    Answers ss id w (.returned (.tuple #[.agg #[.int .i64 0, .string ⟨#[]⟩, .string ⟨#[]⟩], .iface 49 (.pointer p)])) w' := by
  refine ⟨?_, hb⟩
  rw [find_none h hk]
  exact ⟨p, rfl⟩

set_option maxHeartbeats 2000000 in
theorem site9 (F : Interp) (g o : Nat) (a : Option Addr) (len cap : Nat) (ss : List St) (id : Int) (w : World) (hF : F.answers w.tape) (hc : w.cell? ⟨g, o, none⟩ = some (.slice a len cap)) (hg : g < w.heap.size) (hr : Row w a len ss) (hlen : len ≤ 4194304) :
    Calls Tryf.prog 9 #[.pointer (some ⟨g, o, none⟩), .int .i64 id] w fun e w' => Answers ss id w e w' := by
  have HR := hide hr
  have HF := hide hF
  clear hr hF
  go_enter Tryf.func9, Tryf.ntmps9
  go_wp2_with fail
  go_loopw [13] (fun i wr => ∃ k : Nat, k ≤ len ∧ i = .int .i64 k ∧ Lacks ss k id ∧ wr.heap[w.heap.size]? = some (.cells #[.int .i64 0, .string ⟨#[]⟩, .string ⟨#[]⟩] 30 (0, 0)) ∧ Below w.heap.size w wr) (fun i _ => len - (intOf i).toNat)
  case atStart => exact ⟨0, Nat.zero_le _, rfl, fun i s hi => absurd hi (by omega), heap_alloc_new _ _, (Below.refl _ _).alloc (Nat.le_refl _) _⟩
  case round =>
    obtain ⟨k, hk, rfl, hla, hz, hbw⟩ := hrel
    have HL := hide hla
    have HZ := hide hz
    have hGz : w.heap.size < wr.heap.size := lt_of_block hz
    clear hla hz hc
    by_cases hlt : k < len
    · obtain ⟨hl, h | ⟨gr, or, rfl, hgr, hcs⟩⟩ := unhide HR
      · exact absurd h (by omega)
      obtain ⟨s, hs⟩ : ∃ s, ss[k]? = some s := ⟨ss[k]'(by omega), by simp⟩
      obtain ⟨c0, c1, c2⟩ := (hcs k s hs).below hbw hgr
      have hgr1 : gr < wr.heap.size := by omega
      have HS := hide hs
      clear hcs hs hl
      by_cases hid : (s.id == id) = true
      · have z0 : wr.cell? ⟨w.heap.size, 0, none⟩ = some (.int .i64 0) := by rw [cell_of_row _ _ _ _ _ _ (unhide HZ)]; rfl
        have z1 : wr.cell? ⟨w.heap.size, 1, none⟩ = some (.string ⟨#[]⟩) := by rw [cell_of_row _ _ _ _ _ _ (unhide HZ)]; rfl
        have z2 : wr.cell? ⟨w.heap.size, 2, none⟩ = some (.string ⟨#[]⟩) := by rw [cell_of_row _ _ _ _ _ _ (unhide HZ)]; rfl
        have f0 : wr.frozen? ⟨w.heap.size, 0, none⟩ = false := frozen_of_row _ _ _ _ _ (unhide HZ)
        have f1 : wr.frozen? ⟨w.heap.size, 1, none⟩ = false := frozen_of_row _ _ _ _ _ (unhide HZ)
        have f2 : wr.frozen? ⟨w.heap.size, 2, none⟩ = false := frozen_of_row _ _ _ _ _ (unhide HZ)
        go_wp2_with fail
        have hB : Below w.heap.size w ((((wr.setCell ⟨w.heap.size, 0, none⟩ (.int .i64 s.id)).setCell ⟨w.heap.size, 1, none⟩ (.string s.a)).setCell ⟨w.heap.size, 2, none⟩ (.string s.b)).alloc (.cells #[.int .i64 s.id, .string s.a, .string s.b] 30)) :=
          (((hbw.setCell (p := ⟨w.heap.size, 0, none⟩) (Nat.le_refl _) _).setCell (p := ⟨w.heap.size, 1, none⟩) (Nat.le_refl _) _).setCell (p := ⟨w.heap.size, 2, none⟩) (Nat.le_refl _) _).alloc (by have := hbw.size; simp [World.setCell]; omega) _
        exact bodyPost_ret (v := .tuple #[.agg #[.int .i64 s.id, .string s.a, .string s.b], .nilIface]) (by simp [results, Tryf.results9, go_sem, z0, z1, z2, hGz]) rfl (answers_yes (unhide HL) (unhide HS) hid hB)
      · have hid' : (s.id == id) = false := by simpa using hid
        clear hid
        go_wp2_with fail
        go_roundw
        case rel => exact ⟨k + 1, by omega, by go_num, lacks_succ (unhide HL) (unhide HS) hid', (Below.heap_alloc _ _ _ hGz).trans (unhide HZ), hbw.alloc (by have := hbw.size; omega) _⟩
        case measure => simp [intOf]; omega
    · go_wp2_with fail
      refine (errorf15 F wr.heap.size 1 id _ (by rw [show (wr.alloc (.cells #[.iface 3 (.int .i64 id)] 20)).tape = wr.tape from rfl, hbw.tape]; exact unhide HF) (World.cell?_alloc_at _ _ _ _ rfl)).mono ?_
      rintro e w2 ⟨p, rfl, hb2⟩
      have hz2 : w2.heap[w.heap.size]? = some (.cells #[.int .i64 0, .string ⟨#[]⟩, .string ⟨#[]⟩] 30 (0, 0)) := (hb2.block _ (by simp; omega)).trans ((Below.heap_alloc _ _ _ hGz).trans (unhide HZ))
      have HZ2 := hide hz2
      have z0 : w2.cell? ⟨w.heap.size, 0, none⟩ = some (.int .i64 0) := by rw [cell_of_row _ _ _ _ _ _ (unhide HZ2)]; rfl
      have z1 : w2.cell? ⟨w.heap.size, 1, none⟩ = some (.string ⟨#[]⟩) := by rw [cell_of_row _ _ _ _ _ _ (unhide HZ2)]; rfl
      have z2 : w2.cell? ⟨w.heap.size, 2, none⟩ = some (.string ⟨#[]⟩) := by rw [cell_of_row _ _ _ _ _ _ (unhide HZ2)]; rfl
      have f0 : w2.frozen? ⟨w.heap.size, 0, none⟩ = false := frozen_of_row _ _ _ _ _ (unhide HZ2)
      have f1 : w2.frozen? ⟨w.heap.size, 1, none⟩ = false := frozen_of_row _ _ _ _ _ (unhide HZ2)
      have f2 : w2.frozen? ⟨w.heap.size, 2, none⟩ = false := frozen_of_row _ _ _ _ _ (unhide HZ2)
      have hbw2 : Below w.heap.size w w2 := (hbw.alloc (by have := hbw.size; omega) _).trans (hb2.mono (by have := hbw.size; simp; omega))
      clear hz2 hb2
      go_wp2_with fail
      have hB : Below w.heap.size w (((w2.setCell ⟨w.heap.size, 0, none⟩ (.int .i64 0)).setCell ⟨w.heap.size, 1, none⟩ (.string ⟨#[]⟩)).setCell ⟨w.heap.size, 2, none⟩ (.string ⟨#[]⟩)) :=
        ((hbw2.setCell (p := ⟨w.heap.size, 0, none⟩) (Nat.le_refl _) _).setCell (p := ⟨w.heap.size, 1, none⟩) (Nat.le_refl _) _).setCell (p := ⟨w.heap.size, 2, none⟩) (Nat.le_refl _) _
      exact bodyPost_ret (v := .tuple #[.agg #[.int .i64 0, .string ⟨#[]⟩, .string ⟨#[]⟩], .iface 49 (.pointer p)]) (by simp [results, Tryf.results9, go_sem, z0, z1, z2]) rfl (answers_no (unhide HL) (by have := (unhide HR).1; omega) hB)

end Go.Proofs.Qxb6630572aFmt
