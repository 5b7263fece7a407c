/-
  zzjdFindPath (function 9) computes fpAt: the tokens from the leaf up, in a row of its own.
-/
import Derived.Test.Qxb6630533aDoorPath
import Derived.Test.Qxb6630533aDoorItoa
namespace Go.Proofs.Qxb6630533aDoor
open Go.RowKit Go.Lib

/-- The path's text is bounded by what the tree weighs. -/
theorem fp_bound (x : Int) : ∀ (n : Nat) (t : Tr n) (T : List ByteArray), weight n t ≤ 1048576 → fpAt x n t = some T → ptBound T ≤ 2 * weight n t := by
  intro n
  induction n with
  | zero => intro t; exact Empty.elim t
  | succ n ih =>
    intro t T hw h
    obtain ⟨kind, off, fin, els, mem⟩ := (t : TrF (Tr n))
    have h' : (if off = x then some [] else if kind = 4 then fpEls (fpAt x n) 0 els else if kind = 5 then fpMem (fpAt x n) x mem else none) = some T := h
    have hwE := weight_els (n := n) ⟨kind, off, fin, els, mem⟩
    simp only at hwE
    have key : ∀ (l : List (Tr n)) (i : Nat) (T : List ByteArray), i + l.length ≤ 1048576 → (∀ e ∈ l, e ∈ els) → fpEls (fpAt x n) i l = some T → ptBound T ≤ 2 * weight (n + 1) (⟨kind, off, fin, els, mem⟩ : TrF (Tr n)) := by
      intro l
      induction l with
      | nil => intro i T _ _ h; cases h
      | cons a r ihl =>
        intro i T hi hl h
        rw [fpEls] at h
        cases ha : fpAt x n a with
        | some T' =>
          rw [ha] at h
          obtain rfl := Option.some.inj h
          have h1 := weight_el (n := n) ⟨kind, off, fin, els, mem⟩ a (hl a (by simp))
          have h2 := ih a T' (by omega) ha
          have h3 := tokI_size i (by simp at hi; omega)
          show (1 + 2 * (tokI i).size) + ptBound T' ≤ _
          omega
        | none =>
          rw [ha] at h
          exact ihl (i + 1) T (by simp at hi; omega) (fun e he => hl e (by simp [he])) h
    have keyM : ∀ (l : List (MemF (Tr n))) (T : List ByteArray), (∀ e ∈ l, e ∈ mem) → fpMem (fpAt x n) x l = some T → ptBound T ≤ 2 * weight (n + 1) (⟨kind, off, fin, els, mem⟩ : TrF (Tr n)) := by
      intro l
      induction l with
      | nil => intro T _ h; cases h
      | cons a r ihl =>
        intro T hl h
        rw [fpMem] at h
        have h1 := weight_me (n := n) ⟨kind, off, fin, els, mem⟩ a (hl a (by simp))
        by_cases hx : a.off = x
        · rw [if_pos hx] at h
          obtain rfl := Option.some.inj h
          show (1 + 2 * a.name.size) + 0 ≤ _
          omega
        · rw [if_neg hx] at h
          cases ha : fpAt x n a.val with
          | some T' =>
            rw [ha] at h
            obtain rfl := Option.some.inj h
            have h2 := ih a.val T' (by omega) ha
            show (1 + 2 * a.name.size) + ptBound T' ≤ _
            omega
          | none =>
            rw [ha] at h
            exact ihl T (fun e he => hl e (by simp [he])) h
    by_cases hx : off = x
    · rw [if_pos hx] at h'
      obtain rfl := Option.some.inj h'
      exact Nat.zero_le _
    · rw [if_neg hx] at h'
      by_cases hk : kind = 4
      · rw [if_pos hk] at h'
        exact key els 0 T (by omega) (fun e he => he) h'
      · rw [if_neg hk] at h'
        by_cases hk5 : kind = 5
        · rw [if_pos hk5] at h'
          exact keyM mem T (fun e he => he) h'
        · rw [if_neg hk5] at h'
          cases h'

theorem ptBound_len (T : List ByteArray) : T.length ≤ ptBound T := by
  have := sum_ge_len (fun t : ByteArray => 1 + 2 * t.size) 1 T (fun x => by omega)
  unfold ptBound
  omega

def Path9 (o : Option (List ByteArray)) (w : World) (e : Ending) (w' : World) : Prop :=
  ∃ v, e = .returned (.tuple #[v, .bool o.isSome]) ∧ w'.ownsRow w.heap.size 9 1 v (o.getD []).length ((o.getD []).reverse.map .string) ∧ Below w.heap.size w w'

theorem own_base {w : World} {B B' : Nat} {e : TypeId} {k : Nat} {v : Value} {n : Nat} {xs : List Value} (h : w.ownsRow B e k v n xs) (hB : B' ≤ B) : w.ownsRow B' e k v n xs := by
  obtain ⟨h1, h2 | ⟨g, cap, cur, a, b, rest⟩⟩ := h
  · exact ⟨h1, .inl h2⟩
  · exact ⟨h1, .inr ⟨g, cap, cur, a, by omega, rest⟩⟩

/-- A row of one string, just laid. -/
theorem ownsRow_one {w : World} {B : Nat} {s : ByteArray} (hB : B ≤ w.heap.size) : (w.alloc (.cells #[.string s] 9)).ownsRow B 9 1 (.slice (some ⟨w.heap.size, 0, none⟩) 1 1) 1 [.string s] :=
  ⟨rfl, .inr ⟨w.heap.size, 1, #[.string s], rfl, hB, Go.heap_alloc_new _ _, Nat.le_refl _, by unfold maxLen; omega, rfl, rfl⟩⟩

def FirstN {α : Type} (p : α → Prop) (l : List α) (k : Nat) : Prop := ∀ i x, i < k → l[i]? = some x → p x

theorem FirstN.succ {α : Type} {p : α → Prop} {l : List α} {k : Nat} {x : α} (h : FirstN p l k) (hx : l[k]? = some x) (hp : p x) : FirstN p l (k + 1) := fun i y hi hy => by
  by_cases e : i = k
  · subst e; rw [hx] at hy; obtain rfl := Option.some.inj hy; exact hp
  · exact h i y (by omega) hy

set_option maxHeartbeats 8000000 in
set_option maxRecDepth 100000 in
theorem find9 (x : Int) : ∀ (n : Nat) (cs : List Value) (t : Tr n) (w : World), InN w 0 n cs t → weight n t ≤ 1048576 →
    Calls Tryd.prog 9 #[.agg cs.toArray, .int .i64 x] w (Path9 (fpAt x n t) w) := by
  intro n
  induction n with
  | zero => intro cs t w h; exact h.elim
  | succ n ih =>
    rintro cs t w ⟨ea, el, ec, ma, ml, mc, rfl, _, _, hE, hM⟩ hwt
    obtain ⟨kind, off, fin, els, mem⟩ := (t : TrF (Tr n))
    simp only at hE hM
    have hel : el ≤ 1048576 := by have := weight_els (n := n) ⟨kind, off, fin, els, mem⟩; have := hE.1; simp only at *; omega
    have hml : ml ≤ 1048576 := by have := weight_mem (n := n) ⟨kind, off, fin, els, mem⟩; have := hM.1; simp only at *; omega
    obtain ⟨i9, hi9, hz0, hz1, hz2⟩ := info_parts info9
    have HE := hide hE
    have HM := hide hM
    have IH := hide ih
    have HWT := hide hwt
    obtain ⟨q, hq⟩ : ∃ q, fpAt x (n + 1) (⟨kind, off, fin, els, mem⟩ : TrF (Tr n)) = q := ⟨_, rfl⟩
    rw [hq]
    have HQ : Hid (q = if off = x then some [] else if kind = 4 then fpEls (fpAt x n) 0 els else if kind = 5 then fpMem (fpAt x n) x mem else none) := hide (by rw [← hq]; rfl)
    have HTL : Hid (∀ T, q = some T → T.length ≤ 2097152) := hide (fun T hT => by
      have h1 := fp_bound x (n + 1) _ T hwt (hq.trans hT)
      have h2 := ptBound_len T
      omega)
    clear hE hM ih hwt hq
    obtain ⟨W0, hW0⟩ : ∃ W0, W0 = w.alloc (.cells #[.int .u8 kind, .int .i64 off, .int .i64 fin, .slice ea el ec, .slice ma ml mc] 25) := ⟨_, rfl⟩
    go_enter Tryd.func9, Tryd.ntmps9
    by_cases hox : off = x
    · have HR : Hid (q = some []) := hide (by rw [unhide HQ, if_pos hox])
      go_wp2_with fail
      go_ret2
      rw [unhide HR]
      exact ⟨_, rfl, World.ownsRow_nil _ _ _ _, (Below.refl _ _).alloc (Nat.le_refl _) _⟩
    by_cases hk4 : kind = 4
    · have HR : Hid (q = fpEls (fpAt x n) 0 els) := hide (by rw [unhide HQ, if_neg hox, if_pos hk4])
      subst hk4
      go_wp2_with fail
      rw [← hW0]
      have HS0 : Hid (W0.heap.size = w.heap.size + 1) := hide (by rw [hW0]; simp)
      have HB0 : Hid (Cells W0 w.heap.size 0 [.int .u8 4, .int .i64 off, .int .i64 fin, .slice ea el ec, .slice ma ml mc]) := hide (cells_of_block (by rw [hW0]; exact Go.heap_alloc_new _ _))
      have HBW0 : Hid (Below w.heap.size w W0) := hide (by rw [hW0]; exact (Below.refl _ _).alloc (Nat.le_refl _) _)
      clear hW0
      go_loopw [7] (fun i wr => ∃ k : Nat, k ≤ el ∧ i = .int .i64 k ∧ FirstN (fun e => fpAt x n e = none) els k ∧ Below W0.heap.size W0 wr) (fun i _ => el - (RowKit.intOf i).toNat)
      case atStart => exact ⟨0, Nat.zero_le _, rfl, fun i x hi => absurd hi (by omega), Below.refl _ _⟩
      case round =>
        obtain ⟨k, hk, rfl, hfi, hbw⟩ := hrel
        have HFI := hide hfi
        have hz : w.heap.size < wr.heap.size := by have := hbw.size; rw [unhide HS0] at this; omega
        have hbw' : Below w.heap.size w wr := (unhide HBW0).trans (hbw.mono (unhide HBW0).size)
        obtain ⟨b0, b1, b2, b3, b4⟩ := cell5 ((unhide HB0).keep (From.of_below (B := 0) hbw) (Nat.zero_le _) (by rw [unhide HS0]; omega))
        simp only [Nat.zero_add] at b0 b1 b2 b3 b4
        clear hfi
        by_cases hlt : k < el
        · obtain ⟨hl, h | ⟨g, o, rfl, _, hg, hc⟩⟩ := unhide HE
          · exact absurd h (by omega)
          obtain ⟨e, he⟩ : ∃ e, els[k]? = some e := ⟨els[k]'(by omega), by simp⟩
          obtain ⟨cs, hcl, hcc, hin⟩ := hc k e he
          have hccr := hcc.keep (From.of_below (B := 0) hbw') (Nat.zero_le _) hg
          have HIN := hide (InN.keep (From.of_below (B := 0) hbw') n cs e hin)
          have HEL := hide he
          have HWE : Hid (weight n e ≤ 1048576) := hide (by have h1 := weight_el (n := n) ⟨4, off, fin, els, mem⟩ e (List.mem_of_getElem? he); have h2 := unhide HWT; omega)
          clear hc hcc hin he hl
          match cs, hcl with
          | [x0, x1, x2, x3, x4], _ =>
            obtain ⟨c0, c1, c2, c3, c4⟩ := cell5 hccr
            clear hccr
            go_wp2_with fail
            refine (unhide IH [x0, x1, x2, x3, x4] e _ (unhide HIN) (unhide HWE)).mono ?_
            obtain ⟨oe, hoe⟩ : ∃ oe, fpAt x n e = oe := ⟨_, rfl⟩
            rw [hoe]
            rintro e1 w1 ⟨v, rfl, hown, hb1⟩
            have HOE := hide hoe
            have HOWN := hide hown
            have hb01 : Below W0.heap.size W0 w1 := hbw.trans (hb1.mono hbw.size)
            have hbw1 : Below w.heap.size w w1 := hbw'.trans (hb1.mono hbw'.size)
            clear c0 c1 c2 c3 c4 b0 b1 b2 b3 b4 hoe hown
            cases oe with
            | none =>
              rw [show (none : Option (List ByteArray)).isSome = false from rfl]
              go_wp2_with fail
              go_roundw
              case rel => exact ⟨k + 1, by omega, by go_num, (unhide HFI).succ (unhide HEL) (unhide HOE), hb01⟩
              case measure => simp [RowKit.intOf]; omega
            | some T =>
              have HA : Hid (q = some (tokI k :: T)) := hide (by
                rw [unhide HR]
                have h := fpEls_hit els 0 k e T (unhide HEL) (unhide HOE) (fun j u hj hu => unhide HFI j u hj hu)
                rw [Nat.zero_add] at h
                exact h)
              have HTB : Hid (T.length ≤ 2097151) := hide (by have h := unhide HTL _ (unhide HA); simp at h; omega)
              have HOW1 : Hid (w1.ownsRow w.heap.size 9 1 v T.length (T.reverse.map .string)) := hide (own_base (unhide HOWN) hbw'.size)
              rw [show (some T).isSome = true from rfl]
              go_wp2_with (first | (go_at_call 21; refine (itoa21 k (by omega) _).mono ?_; rintro _ w2 ⟨rfl, hb2⟩) | (at_builtin; refine wpList_append_lies _ rfl (.tmp 39) (.tmp 42) 32 rfl w.heap.size 9 i9 (.string ⟨#[]⟩) 1 16 Tryd.underlying32 hi9 hz0 hz1 hz2 rfl (by decide) _ T.length (T.reverse.map .string) rfl ((own_keep (unhide HOW1) hb2).alloc _) ⟨w2.heap.size, 0, none⟩ 1 1 [.string (tokI k)] rfl rfl (World.news_of_block (Go.heap_alloc_new w2 _)) (by intro u hu; simp at hu; subst hu; rfl) (by decide) (by have := unhide HTB; unfold maxLen; omega) (by have := unhide HTB; omega) (Nat.le_trans hbw1.size (Nat.le_trans hb2.size (by simp))) _ rfl ?_; intro g4 cap4 w4 hown4 hgrow4 hor4 hlt4))
              go_ret2
              rw [unhide HA]
              have hb4 := ((hbw1.trans (hb2.mono hbw1.size)).alloc (Nat.le_trans hbw1.size hb2.size) _).grown hgrow4 (Nat.le_trans hbw1.size (Nat.le_trans hb2.size (by simp))) (fun k hk => ((unhide HOW1).lt k hk).1)
              exact ⟨_, rfl, by simpa using hown4, hb4⟩
        · obtain rfl : el = k := by omega
          have HA : Hid (q = none) := hide (by rw [unhide HR]; exact fpEls_none els 0 (fun j u hu => unhide HFI j u (by have h1 := (List.getElem?_eq_some_iff.1 hu).1; have h2 := (unhide HE).1; omega) hu))
          go_wp2_with fail
          go_ret2
          rw [unhide HA]
          exact ⟨_, rfl, World.ownsRow_nil _ _ _ _, hbw'⟩
    · by_cases hk5 : kind = 5
      · have HR : Hid (q = fpMem (fpAt x n) x mem) := hide (by rw [unhide HQ, if_neg hox, if_neg hk4, if_pos hk5])
        clear hk4
        subst hk5
        go_wp2_with fail
        rw [← hW0]
        have HS0 : Hid (W0.heap.size = w.heap.size + 1) := hide (by rw [hW0]; simp)
        have HB0 : Hid (Cells W0 w.heap.size 0 [.int .u8 5, .int .i64 off, .int .i64 fin, .slice ea el ec, .slice ma ml mc]) := hide (cells_of_block (by rw [hW0]; exact Go.heap_alloc_new _ _))
        have HBW0 : Hid (Below w.heap.size w W0) := hide (by rw [hW0]; exact (Below.refl _ _).alloc (Nat.le_refl _) _)
        clear hW0
        go_loopw [10] (fun i wr => ∃ k : Nat, k ≤ ml ∧ i = .int .i64 k ∧ FirstN (fun m => m.off ≠ x ∧ fpAt x n m.val = none) mem k ∧ Below W0.heap.size W0 wr) (fun i _ => ml - (RowKit.intOf i).toNat)
        case atStart => exact ⟨0, Nat.zero_le _, rfl, fun i x hi => absurd hi (by omega), Below.refl _ _⟩
        case round =>
          obtain ⟨k, hk, rfl, hfi, hbw⟩ := hrel
          have HFI := hide hfi
          have hz : w.heap.size < wr.heap.size := by have := hbw.size; rw [unhide HS0] at this; omega
          have hbw' : Below w.heap.size w wr := (unhide HBW0).trans (hbw.mono (unhide HBW0).size)
          obtain ⟨b0, b1, b2, b3, b4⟩ := cell5 ((unhide HB0).keep (From.of_below (B := 0) hbw) (Nat.zero_le _) (by rw [unhide HS0]; omega))
          simp only [Nat.zero_add] at b0 b1 b2 b3 b4
          clear hfi
          by_cases hlt : k < ml
          · obtain ⟨hl, h | ⟨g, o, rfl, _, hg, hc⟩⟩ := unhide HM
            · exact absurd h (by omega)
            obtain ⟨m, hm⟩ : ∃ m, mem[k]? = some m := ⟨mem[k]'(by omega), by simp⟩
            obtain ⟨cs, hcl, hcc, rr, hcs, hmo, hin⟩ := hc k m hm
            have hccr := hcc.keep (From.of_below (B := 0) hbw') (Nat.zero_le _) hg
            have HIN := hide (InN.keep (From.of_below (B := 0) hbw') n rr m.val hin)
            have HME := hide hm
            have HWE : Hid (weight n m.val ≤ 1048576) := hide (by have h1 := weight_me (n := n) ⟨5, off, fin, els, mem⟩ m (List.mem_of_getElem? hm); have h2 := unhide HWT; omega)
            have hgz : g < wr.heap.size := Nat.lt_of_lt_of_le hg hbw'.size
            subst hcs
            clear hc hcc hin hm hl hmo
            obtain ⟨mname, moff, mval⟩ := m
            have hcl5 : rr.length = 5 := by simpa using hcl
            clear hcl
            match rr, hcl5 with
            | [x0, x1, x2, x3, x4], _ =>
              obtain ⟨c0, c1, d0, d1, d2, d3, d4⟩ := cell7 hccr
              clear hccr
              by_cases hmx : moff = x
              · have HA : Hid (q = some [mname]) := hide (by rw [unhide HR]; exact fpMem_name mem k _ (unhide HME) hmx (fun j u hj hu => unhide HFI j u hj hu))
                go_wp2_with fail
                go_ret2
                rw [unhide HA]
                exact ⟨_, rfl, ownsRow_one hbw'.size, hbw'.alloc hbw'.size _⟩
              · go_wp2_with fail
                refine (unhide IH [x0, x1, x2, x3, x4] mval _ (unhide HIN) (unhide HWE)).mono ?_
                obtain ⟨oe, hoe⟩ : ∃ oe, fpAt x n mval = oe := ⟨_, rfl⟩
                rw [hoe]
                rintro e1 w1 ⟨v, rfl, hown, hb1⟩
                have HOE := hide hoe
                have HOWN := hide hown
                have hb01 : Below W0.heap.size W0 w1 := hbw.trans (hb1.mono hbw.size)
                have hbw1 : Below w.heap.size w w1 := hbw'.trans (hb1.mono hbw'.size)
                have y4 := (hb1.cell (p := ⟨w.heap.size, 4, none⟩) hz).trans b4
                have yn := (hb1.cell (p := ⟨g, o + k * 7, none⟩) hgz).trans c0
                clear c0 c1 d0 d1 d2 d3 d4 b0 b1 b2 b3 b4 hoe hown
                cases oe with
                | none =>
                  rw [show (none : Option (List ByteArray)).isSome = false from rfl]
                  go_wp2_with fail
                  go_roundw
                  case rel => exact ⟨k + 1, by omega, by go_num, (unhide HFI).succ (unhide HME) ⟨hmx, unhide HOE⟩, hb01⟩
                  case measure => simp [RowKit.intOf]; omega
                | some T =>
                  have HA : Hid (q = some (mname :: T)) := hide (by rw [unhide HR]; exact fpMem_hit mem k _ T (unhide HME) hmx (unhide HOE) (fun j u hj hu => unhide HFI j u hj hu))
                  have HTB : Hid (T.length ≤ 2097151) := hide (by have h := unhide HTL _ (unhide HA); simp at h; omega)
                  have HOW1 : Hid (w1.ownsRow w.heap.size 9 1 v T.length (T.reverse.map .string)) := hide (own_base (unhide HOWN) hbw'.size)
                  rw [show (some T).isSome = true from rfl]
                  go_wp2_with (first | (at_builtin; refine wpList_append_lies _ rfl (.tmp 80) (.tmp 87) 32 rfl w.heap.size 9 i9 (.string ⟨#[]⟩) 1 16 Tryd.underlying32 hi9 hz0 hz1 hz2 rfl (by decide) _ T.length (T.reverse.map .string) rfl ((unhide HOW1).alloc _) ⟨w1.heap.size, 0, none⟩ 1 1 [.string mname] rfl rfl (World.news_of_block (Go.heap_alloc_new w1 _)) (by intro u hu; simp at hu; subst hu; rfl) (by decide) (by have := unhide HTB; unfold maxLen; omega) (by have := unhide HTB; omega) (Nat.le_trans hbw1.size (by simp)) _ rfl ?_; intro g4 cap4 w4 hown4 hgrow4 hor4 hlt4))
                  go_ret2
                  rw [unhide HA]
                  have hb4 := (hbw1.alloc hbw1.size _).grown hgrow4 (Nat.le_trans hbw1.size (by simp)) (fun k hk => ((unhide HOW1).lt k hk).1)
                  exact ⟨_, rfl, by simpa using hown4, hb4⟩
          · obtain rfl : ml = k := by omega
            have HA : Hid (q = none) := hide (by rw [unhide HR]; exact fpMem_none mem (fun j u hu => unhide HFI j u (by have h1 := (List.getElem?_eq_some_iff.1 hu).1; have h2 := (unhide HM).1; omega) hu))
            go_wp2_with fail
            go_ret2
            rw [unhide HA]
            exact ⟨_, rfl, World.ownsRow_nil _ _ _ _, hbw'⟩
      · have HR : Hid (q = none) := hide (by rw [unhide HQ, if_neg hox, if_neg hk4, if_neg hk5])
        go_wp2_with fail
        go_ret2
        rw [unhide HR]
        exact ⟨_, rfl, World.ownsRow_nil _ _ _ _, (Below.refl _ _).alloc (Nat.le_refl _) _⟩

end Go.Proofs.Qxb6630533aDoor
