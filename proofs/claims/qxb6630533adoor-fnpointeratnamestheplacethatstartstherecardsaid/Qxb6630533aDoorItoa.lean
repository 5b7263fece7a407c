/-
  zzjdItoa and zzjdPointerOf (functions 21, 10).
-/
import Derived.Test.Qxb6630533aDoorAt
namespace Go.Proofs.Qxb6630533aDoor
open Go.RowKit Go.Lib

/-- The digits that are still to come: none of 0. -/
def digs (m : Nat) : List UInt8 := if m = 0 then [] else decDigits m

theorem digs_step {m : Nat} (h : 0 < m) : digs m = digs (m / 10) ++ [UInt8.ofNat (48 + m % 10)] := by
  unfold digs
  rw [if_neg (by omega)]
  by_cases h10 : m < 10
  · rw [decDigits, dif_pos h10, if_pos (by omega), Nat.mod_eq_of_lt h10]; rfl
  · rw [decDigits, dif_neg h10, if_neg (by omega)]

theorem digs_len {m : Nat} (h : m ≤ 1048576) : (digs m).length ≤ 21 := by
  unfold digs
  split
  · simp
  · have := itoa_length_le (m : Int) (by omega) (by omega)
    unfold itoa at this
    rw [if_neg (by omega)] at this
    simpa using this

theorem tokI_digs {m : Nat} (h : 0 < m) : tokI m = ⟨(digs m).toArray⟩ := by
  unfold tokI digs itoa
  rw [if_neg (by omega), if_neg (by omega)]
  simp

theorem tokI_zero : tokI 0 = ⟨#[48]⟩ := by
  unfold tokI itoa
  rw [if_neg (by decide)]
  show (⟨(decDigits 0).toArray⟩ : ByteArray) = _
  rw [decDigits_one (by decide)]
  rfl

theorem slice62 (w : World) (B p L : Nat) (h : p + L = 24) (hL : 0 < L) : (Instr.sliceAt 62 (.pointer (some ⟨B, 0, none⟩)) (some (.int .i64 (p : Int))) none none).run Tryd.prog w = .ok (.slice (some ⟨B, p, none⟩) L L) w := by
  have a24 : Tryd.prog.arrayLen 62 = 24 := by kernel_rfl
  have e5 : Tryd.prog.elem 62 = 5 := by kernel_rfl
  rw [run_sliceAt_array_l w 62 ⟨B, 0, none⟩ (by rw [a24, e5]; exact Tryd.underlying62) .i64 (p : Int) (by omega) (by rw [a24]; omega), e5, Tryd.sizeOf5 w, a24]
  simp only [Result.andThen_ok, slicedAt, Int.toNat_natCast]
  rw [if_neg (by omega), Addr.add_lit, show 24 - p = L by omega]
  simp

set_option maxHeartbeats 4000000 in
set_option maxRecDepth 100000 in
theorem itoa21 (n : Nat) (hn : n ≤ 1048576) (w : World) : Calls Tryd.prog 21 #[.int .i64 (n : Int)] w fun e w' => e = .returned (.string (tokI n)) ∧ Below w.heap.size w w' := by
  by_cases h0 : n = 0
  · subst h0
    go_enter Tryd.func21, Tryd.ntmps21
    go_wp2_with fail
    go_ret
    exact ⟨by rw [tokI_zero]; rfl, Below.refl _ _⟩
  · have hne : ¬ (n : Int) = 0 := by omega
    go_enter Tryd.func21, Tryd.ntmps21
    go_wp2_with fail
    have hz : ∀ (W : World) (c : Obj), Below W.heap.size W (W.alloc c) := fun W c => (Below.refl _ _).alloc (Nat.le_refl _) _
    go_loopw [0, 4] (fun s0 s4 wr => ∃ (m p : Nat) (ds : List UInt8) (ys : List Value), s0 = .int .i64 (m : Int) ∧ s4 = .int .i64 (p : Int) ∧ m ≤ n ∧ p + ds.length = 24 ∧ digs n = digs m ++ ds ∧ wr.heap[w.heap.size]? = some (.cells ys.toArray 62 (0, 0)) ∧ ys.length = 24 ∧ ys.drop p = byteCells ds ∧ Below w.heap.size w wr) (fun s0 _ _ => (RowKit.intOf s0).toNat)
    case atStart => exact ⟨n, 24, [], _, rfl, rfl, Nat.le_refl _, rfl, by simp, heap_alloc_new _ _, rfl, rfl, hz _ _⟩
    case round =>
      obtain ⟨m, p, ds, ys, rfl, rfl, hmn, hpd, hdig, hB, hyl, hyd, hbw⟩ := hrel
      have HB := hide hB
      have HD := hide hdig
      have HYD := hide hyd
      have HYL := hide hyl
      have HPD := hide hpd
      clear hB hdig hyd hyl hpd
      by_cases hm : 0 < m
      · have hp : 3 ≤ p := by
          have h1 := digs_len hn
          have h2 := digs_step hm
          have h3 := unhide HD
          rw [h3, h2] at h1
          simp at h1
          have := unhide HPD
          omega
        obtain ⟨q, rfl⟩ : ∃ q, p = q + 1 := ⟨p - 1, by omega⟩
        have hq : q < 24 := by have := unhide HPD; omega
        have c0 : ∃ v, wr.cell? ⟨w.heap.size, q, none⟩ = some v := ⟨ys[q]'(by have := unhide HYL; omega), by rw [cell_of_row _ _ _ _ _ _ (unhide HB)]; simp⟩
        obtain ⟨v0, c0⟩ := c0
        have f0 : wr.frozen? ⟨w.heap.size, q, none⟩ = false := frozen_of_row _ _ _ _ _ (unhide HB)
        go_wp2_with fail
        go_roundw
        case rel =>
          refine ⟨m / 10, q, UInt8.ofNat (48 + m % 10) :: ds, ys.set q (.int .u8 (48 + (m : Int) % 10)), by congr 1, rfl, by omega, by have := unhide HPD; simp; omega, ?_, ?_, by have := unhide HYL; simpa using this, ?_, hbw.setCell (p := ⟨w.heap.size, q, none⟩) (Nat.le_refl _) _⟩
          · rw [unhide HD, digs_step hm]; simp
          · rw [heap_setCell_same _ _ _ _ _ _ (unhide HB)]; simp
          · have hql : q < ys.length := by have := unhide HYL; omega
            rw [List.drop_eq_getElem_cons (by simpa using hql), List.getElem_set_self, List.drop_set, if_pos (by omega), unhide HYD]
            simp [byteCells]
            omega
        case measure => simp [RowKit.intOf]; omega
      · obtain rfl : m = 0 := by omega
        have hds : 0 < ds.length := by
          have h1 := unhide HD
          have h2 := digs_step (m := n) (by omega)
          rw [h2] at h1
          have h3 := congrArg List.length h1
          simp [digs] at h3
          omega
        have hcell : ∀ j (hj : j < ds.length), wr.cell? ((⟨w.heap.size, p, none⟩ : Addr).add j) = some (.int .u8 (ds[j].toNat : Int)) := by
          intro j hj
          rw [Addr.add_lit, cell_of_row _ _ _ _ _ _ (unhide HB)]
          have h1 := congrArg (·[j]?) (unhide HYD)
          simp [byteCells, hj] at h1
          simpa using h1
        have hcv := run_convert_bytes_back (P := Tryd.prog) wr 58 9 5 ⟨w.heap.size, p, none⟩ ds.length ds Tryd.underlying58 Tryd.underlying5 Tryd.underlying9 hcell
        have hsl := slice62 wr w.heap.size p ds.length (unhide HPD) hds
        have HT : Hid (tokI n = ⟨ds.toArray⟩) := hide (by rw [tokI_digs (by omega), unhide HD]; rfl)
        clear hcell
        go_wp2_with fail
        go_ret
        exact ⟨by rw [unhide HT]; rfl, hbw⟩

/-- 'b = append(b, c, d)': the two new bytes lie in the block that the statement has just laid. -/
theorem wpList_append_two {P : Program} {ops : Array Oper} {rest : List Oper} {o : Oper} {a : Act} {Q : Exit → Act → World → Prop} (hgd : o.guard = none) (s x : Operand) (t : TypeId)
    (ho : o.op = .call { callee := .builtin .append, args := #[s, x], argTypes := #[t, t] })
    (B : Nat) (e : TypeId) (i : TypeInfo) (ht : P.underlying t = some (.slice e)) (hi : P.info? e = some i) (hz : i.zero = some (.int .u8 0)) (hsize : i.size = 1) (hby : i.bytes = 1)
    (v : Value) (n : Nat) (xs : List Value) (hs : a.eval s = v) (W0 w0 : World) (c d : Int) (hb : OwnBuf B e v n xs W0 w0)
    (hx : a.eval x = .slice (some ⟨w0.heap.size, 0, none⟩) 2 2) (hlen : n + 2 ≤ 140737488355328)
    (h : ∀ v' w', OwnBuf B e v' (n + 2) (xs ++ [.int .u8 c, .int .u8 d]) W0 w' → wpList P ops Q rest (a.put o.dst v') w') : wpList P ops Q (o :: rest) a (w0.alloc (.cells #[.int .u8 c, .int .u8 d] e)) := by
  have hb' := hb.alloc (.cells #[.int .u8 c, .int .u8 d] e)
  refine wpList_append_ownF _ hgd s x t ho B e i (.int .u8 0) 1 1 ht hi hz hsize hby rfl (by decide) v n xs hs hb'.1 ⟨w0.heap.size, 0, none⟩ 2 2 [.int .u8 c, .int .u8 d] hx rfl ?_ ?_ (by unfold maxLen; omega) (by omega) hb'.2.2 ?_
  · exact World.news_of_block (cs := #[.int .u8 c, .int .u8 d]) (Go.heap_alloc_new w0 _)
  · intro u hu
    simp at hu
    rcases hu with rfl | rfl <;> rfl
  · intro v' w' ho' hg _
    exact h v' w' (hb'.grown ho' hg)

theorem rev_drop {R : List ByteArray} {j : Nat} {t : ByteArray} (h : R[j]? = some t) : ptText (R.drop j).reverse = (ptText (R.drop (j + 1)).reverse ++ [47]) ++ tokText t := by
  have hj := (List.getElem?_eq_some_iff.1 h).1
  rw [List.drop_eq_getElem_cons hj, (List.getElem?_eq_some_iff.1 h).2, List.reverse_cons]
  unfold ptText
  simp

theorem ptBound_rev {R : List ByteArray} {j : Nat} {t : ByteArray} (h : R[j]? = some t) : (ptText (R.drop (j + 1)).reverse).length + 1 + 2 * t.size ≤ ptBound R := by
  have hj := (List.getElem?_eq_some_iff.1 h).1
  have h1 := ptText_le (R.drop (j + 1)).reverse
  have e0 : ptBound (R.drop (j + 1)).reverse = ptBound (R.drop (j + 1)) := by unfold ptBound; rw [List.map_reverse, List.sum_reverse]
  have e : ptBound R = ptBound (R.take j) + ptBound (R.drop j) := by
    unfold ptBound
    rw [← List.sum_append, ← List.map_append, List.take_append_drop]
  have e2 : ptBound (R.drop j) = 1 + 2 * t.size + ptBound (R.drop (j + 1)) := by
    unfold ptBound
    rw [List.drop_eq_getElem_cons hj, List.map_cons, List.sum_cons, (List.getElem?_eq_some_iff.1 h).2]
  omega

set_option maxHeartbeats 8000000 in
set_option maxRecDepth 100000 in
theorem pointerOf10 (a : Option Addr) (cap len : Nat) (R : List ByteArray) (w : World) (hT : StrRow w a R) (hlR : R.length = len) (hB : ptBound R ≤ 140737488355328) :
    Calls Tryd.prog 10 #[.slice a len cap] w fun e w' => e = .returned (.string ⟨(ptText R.reverse).toArray⟩) ∧ Below w.heap.size w w' := by
  obtain ⟨i5, hi5, hz0, hz1, hz2⟩ := info_parts info5
  have HT := hide hT
  have HBd := hide hB
  have htl : len ≤ 140737488355328 := by
    have : R.length ≤ ptBound R := by
      unfold ptBound
      have := sum_ge_len (fun t : ByteArray => 1 + 2 * t.size) 1 R (fun x => by omega)
      omega
    omega
  have HLR := hide hlR
  clear hT hB hlR
  go_enter Tryd.func10, Tryd.ntmps10
  go_wp2_with fail
  go_loopw [3, 4] (fun s3 s4 wr => ∃ k : Nat, k ≤ len ∧ s4 = .int .i64 ((k : Int) - 1) ∧ OwnBuf w.heap.size 5 s3 (ptText (R.drop k).reverse).length (byteCells (ptText (R.drop k).reverse)) w wr) (fun _ i _ => ((RowKit.intOf i) + 1).toNat)
  case atStart =>
    refine ⟨len, Nat.le_refl _, rfl, ?_⟩
    rw [List.drop_of_length_le (by rw [unhide HLR]; exact Nat.le_refl _)]
    exact ⟨World.ownsRowF_nil _ _ _ _, Below.refl _ _, Nat.le_refl _⟩
  case round =>
    obtain ⟨k, hk, rfl, ho⟩ := hrel
    have HO := hide ho
    have hbw := ho.2.1
    clear ho
    cases k with
    | zero =>
      have hcv := conv_own (unhide HO)
      go_wp2_with fail
      go_ret
      exact ⟨rfl, hbw⟩
    | succ j =>
      obtain h | ⟨g, o, rfl, hgz, hc⟩ := unhide HT
      · have := unhide HLR; rw [h] at this; simp at this; omega
      obtain ⟨t, ht⟩ : ∃ t, R[j]? = some t := ⟨R[j]'(by have := unhide HLR; omega), by simp⟩
      have HTK := hide ht
      have cw := hc j t ht
      clear hc ht
      have e1 : ((j + 1 : Nat) : Int) - 1 = (j : Int) := by omega
      rw [e1]
      clear e1
      have i0 : (0 : Int) ≤ (j : Int) := by omega
      have i1 : (j : Int) < (len : Int) := by omega
      go_wp2_with (first | (at_builtin; refine wpList_append_byte rfl (.tmp 15) (.tmp 16) 58 rfl w.heap.size 5 i5 Tryd.underlying58 hi5 hz0 hz1 hz2 _ _ _ rfl w wr _ (unhide HO) rfl (by have h1 := ptBound_rev (unhide HTK); have h2 := unhide HBd; omega) ?_; intro v1 w1 hb1; have c0 := (hb1.2.1.cell (p := ⟨g, o + j, none⟩) hgz).trans cw))
      obtain ⟨bs, hbs⟩ : ∃ bs, ptText (R.drop (j + 1)).reverse ++ [47] = bs := ⟨_, rfl⟩
      have HO1 : Hid (OwnBuf w.heap.size 5 v1 bs.length (byteCells bs) w w1) := hide (by rw [← hbs]; exact own_more (ds := []) (c := [47]) (by rw [List.append_nil]; exact hb1))
      have HLb : Hid (bs.length + 2 * t.size ≤ 140737488355328) := hide (by have h1 := ptBound_rev (unhide HTK); have h2 := unhide HBd; rw [← hbs]; simp only [List.length_append, List.length_cons, List.length_nil]; omega)
      have HE : Hid (ptText (R.drop j).reverse = bs ++ tokText t) := hide (by rw [rev_drop (unhide HTK), hbs])
      have htz : t.size ≤ 140737488355328 := by have := unhide HLb; omega
      clear hb1 hbs c0
      go_loopw [3, 6] (fun s3 s6 wq => ∃ q : Nat, q ≤ t.size ∧ s6 = .int .i64 q ∧ OwnBuf w.heap.size 5 s3 (bs ++ (t.data.toList.take q).flatMap esc).length (byteCells (bs ++ (t.data.toList.take q).flatMap esc)) w wq) (fun _ i _ => t.size - (RowKit.intOf i).toNat)
      case atStart => exact ⟨0, Nat.zero_le _, rfl, by simpa using unhide HO1⟩
      case round =>
        obtain ⟨q, hq, rfl, hoq⟩ := hrel
        have HOQ := hide hoq
        clear hoq
        by_cases hlt : q < t.size
        · have j0 : (0 : Int) ≤ (q : Int) := by omega
          have j1 : (q : Int) < (t.size : Int) := by omega
          have hx : t.data.toList[q]? = some t[q] := by
            rw [Array.getElem?_toList]
            exact Array.getElem?_eq_getElem hlt
          have HX := hide (take_esc t.data.toList q t[q] hx)
          have HL : Hid ((bs ++ (t.data.toList.take q).flatMap esc).length + 2 ≤ 140737488355328) := hide (by
            have h1 := flatMap_esc_len (t.data.toList.take q)
            have h2 : (t.data.toList.take q).length ≤ q := by simp; omega
            have h3 := unhide HLb
            rw [List.length_append]; omega)
          clear hx
          by_cases h126 : t[q] = 126
          · have n1 : ((t[q].toNat : Nat) : Int) = 126 := by rw [h126]; rfl
            go_wp2_with (at_builtin; refine wpList_append_two rfl (.tmp 33) (.tmp 34) 58 rfl w.heap.size 5 i5 Tryd.underlying58 hi5 hz0 hz1 hz2 _ _ _ rfl w wr _ _ (unhide HOQ) rfl (unhide HL) ?_; intro v2 w2 hb2)
            go_roundw
            case rel =>
              refine ⟨q + 1, by omega, by go_num, ?_⟩
              rw [unhide HX, h126]
              exact own_more (c := [126, 48]) hb2
            case measure => simp [RowKit.intOf]; omega
          · have n1 : ¬ ((t[q].toNat : Nat) : Int) = 126 := fun h => h126 (UInt8.toNat_inj.1 (by simpa using Int.ofNat.inj (h : Int.ofNat _ = Int.ofNat 126)))
            by_cases h47 : t[q] = 47
            · have n2 : ((t[q].toNat : Nat) : Int) = 47 := by rw [h47]; rfl
              go_wp2_with (at_builtin; refine wpList_append_two rfl (.tmp 38) (.tmp 39) 58 rfl w.heap.size 5 i5 Tryd.underlying58 hi5 hz0 hz1 hz2 _ _ _ rfl w wr _ _ (unhide HOQ) rfl (unhide HL) ?_; intro v2 w2 hb2)
              go_roundw
              case rel =>
                refine ⟨q + 1, by omega, by go_num, ?_⟩
                rw [unhide HX, h47]
                exact own_more (c := [126, 49]) hb2
              case measure => simp [RowKit.intOf]; omega
            · have n2 : ¬ ((t[q].toNat : Nat) : Int) = 47 := fun h => h47 (UInt8.toNat_inj.1 (by simpa using Int.ofNat.inj (h : Int.ofNat _ = Int.ofNat 47)))
              go_wp2_with (at_builtin; refine wpList_append_byte rfl (.tmp 41) (.tmp 43) 58 rfl w.heap.size 5 i5 Tryd.underlying58 hi5 hz0 hz1 hz2 _ _ _ rfl w wr _ (unhide HOQ) rfl (Nat.le_trans (Nat.le_succ _) (unhide HL)) ?_; intro v2 w2 hb2)
              go_roundw
              case rel =>
                refine ⟨q + 1, by omega, by go_num, ?_⟩
                rw [unhide HX, esc, if_neg h126, if_neg h47]
                exact own_more (c := [t[q]]) hb2
              case measure => simp [RowKit.intOf]; omega
        · obtain rfl : t.size = q := by omega
          go_wp2_with fail
          go_roundw
          case rel =>
            refine ⟨j, by omega, rfl, ?_⟩
            have h := unhide HOQ
            rw [List.take_of_length_le (by rw [Array.length_toList]; exact Nat.le_refl _)] at h
            rw [unhide HE]
            exact h
          case measure => simp [RowKit.intOf]

end Go.Proofs.Qxb6630533aDoor
