/-
  MORE CALLEES of seat b6630572aF: the bound on bytes of two lists, zzJoin, zzHasID, zzIsElem.
-/
import Derived.Test.Qxb6630572aFmtRowsOf
import Derived.BigQuiet
import Derived.Deep.QuietTactic
import Derived.Deep.RegionWith
namespace Go.Proofs.Qxb6630572aFmt
open Go.RowKit

/-- Where the bound on bytes says yes, both lists are short; the world is as it was. -/
def Short2 (la lb : Nat) (w : World) (e : Ending) (w' : World) : Prop := ∃ ok : Bool, e = .returned (.bool ok) ∧ (ok = true → la ≤ 1048576 ∧ lb ≤ 1048576) ∧ w' = w

set_option maxHeartbeats 4000000 in
theorem bytes5 (a b : Option Addr) (la ca lb cb : Nat) (sa sb : List St) (id : Int) (w : World) (ha : Row w a la sa) (hb : Row w b lb sb) :
    Calls Tryf.prog 5 #[.slice a la ca, .slice b lb cb, .int .i64 id] w fun e w' => Short2 la lb w e w' := by
  have HA := hide ha
  have HB := hide hb
  clear ha hb
  by_cases hla : la ≤ 1048576
  · go_enter Tryf.func5, Tryf.ntmps5
    go_wp2_with fail
    go_loop [7, 8] (fun v i => ∃ (k : Nat) (z : Int), k ≤ la ∧ i = .int .i64 k ∧ v = .int .i64 z ∧ 0 ≤ z ∧ z ≤ 1048576) (fun _ i => la - (intOf i).toNat)
    case atStart => exact ⟨0, la, Nat.zero_le _, rfl, rfl, by omega, by omega⟩
    case round =>
      obtain ⟨k, z, hk, rfl, rfl, p0, p1⟩ := hrel
      by_cases hlt : k < la
      · obtain ⟨hl, h | ⟨g, o, rfl, hg, hc⟩⟩ := unhide HA
        · exact absurd h (by omega)
        obtain ⟨s, hs⟩ : ∃ s, sa[k]? = some s := ⟨sa[k]'(by omega), by simp⟩
        obtain ⟨c0, c1, c2⟩ := hc k s hs
        clear hc hs hl
        by_cases hlb : lb ≤ 1048576
        · go_wp2_with fail
          all_goals first
            | (go_ret
               exact (⟨_, rfl, fun _ => ⟨hla, hlb⟩, rfl⟩ : Short2 _ _ _ _ _))
            | (go_round
               case rel => exact ⟨k + 1, _, by omega, by go_num, rfl, by omega, by omega⟩
               case measure => simp [intOf]; omega)
        · go_wp2_with fail
          all_goals first
            | (go_round
               case rel => exact ⟨k + 1, _, by omega, by go_num, rfl, by omega, by omega⟩
               case measure => simp [intOf]; omega)
            | (go_ret
               exact ⟨false, rfl, fun h => absurd h Bool.false_ne_true, rfl⟩)
      · by_cases hlb : lb ≤ 1048576
        · go_wp2_with fail
          · go_ret
            exact (⟨_, rfl, fun _ => ⟨hla, hlb⟩, rfl⟩ : Short2 _ _ _ _ _)
          go_loop [7, 9] (fun v i => ∃ (k : Nat) (z : Int), k ≤ lb ∧ i = .int .i64 k ∧ v = .int .i64 z ∧ 0 ≤ z ∧ z ≤ 1048576) (fun _ i => lb - (intOf i).toNat)
          case atStart => exact ⟨0, z + lb, Nat.zero_le _, rfl, rfl, by omega, by omega⟩
          case round =>
            obtain ⟨k, z, hk, rfl, rfl, p0, p1⟩ := hrel
            by_cases hlt : k < lb
            · obtain ⟨hl, h | ⟨g, o, rfl, hg, hc⟩⟩ := unhide HB
              · exact absurd h (by omega)
              obtain ⟨s, hs⟩ : ∃ s, sb[k]? = some s := ⟨sb[k]'(by omega), by simp⟩
              obtain ⟨c0, c1, c2⟩ := hc k s hs
              clear hc hs hl
              go_wp2_with fail
              all_goals first
                | (go_ret
                   exact (⟨_, rfl, fun _ => ⟨hla, hlb⟩, rfl⟩ : Short2 _ _ _ _ _))
                | (go_round
                   case rel => exact ⟨k + 1, _, by omega, by go_num, rfl, by omega, by omega⟩
                   case measure => simp [intOf]; omega)
            · go_wp2_with fail
              go_ret
              exact (⟨_, rfl, fun _ => ⟨hla, hlb⟩, rfl⟩ : Short2 _ _ _ _ _)
        · go_wp2_with fail
          go_ret
          exact ⟨false, rfl, fun h => absurd h Bool.false_ne_true, rfl⟩
  · go_enter Tryf.func5, Tryf.ntmps5
    go_wp2_with fail
    go_ret
    exact ⟨false, rfl, fun h => absurd h Bool.false_ne_true, rfl⟩

set_option maxHeartbeats 2000000 in
theorem hasid10 (a : Option Addr) (len cap : Nat) (ss : List St) (id : Int) (w : World) (hr : Row w a len ss) (hlen : len ≤ 1048576) :
    Calls Tryf.prog 10 #[.slice a len cap, .int .i64 id] w fun e w' => e = .returned (.bool (ss.find? (fun s => s.id == id)).isSome) ∧ w' = w := by
  have HR := hide hr
  clear hr
  obtain ⟨R, hR⟩ : ∃ R, (ss.find? (fun s => s.id == id)).isSome = R := ⟨_, rfl⟩
  rw [hR]
  have HX := hide hR
  clear hR
  go_enter Tryf.func10, Tryf.ntmps10
  go_wp2_with fail
  go_loop [5] (fun i => ∃ k : Nat, k ≤ len ∧ i = .int .i64 k ∧ Lacks ss k id) (fun i => len - (intOf i).toNat)
  case atStart => exact ⟨0, Nat.zero_le _, rfl, fun i s hi => absurd hi (by omega)⟩
  case round =>
    obtain ⟨k, hk, rfl, hla⟩ := hrel
    have HL := hide hla
    clear hla
    by_cases hlt : k < len
    · obtain ⟨hl, h | ⟨g, o, rfl, hg, hc⟩⟩ := unhide HR
      · exact absurd h (by omega)
      obtain ⟨s, hs⟩ : ∃ s, ss[k]? = some s := ⟨ss[k]'(by omega), by simp⟩
      obtain ⟨c0, c1, c2⟩ := hc k s hs
      have HS := hide hs
      clear hc hs hl
      by_cases hid : (s.id == id) = true
      · go_wp2_with fail
        go_ret
        have hR := unhide HX
        rw [find_at (unhide HL) (unhide HS) hid] at hR
        exact ⟨by rw [← hR]; rfl, rfl⟩
      · have hid' : (s.id == id) = false := by simpa using hid
        clear hid
        go_wp2_with fail
        go_round
        case rel => exact ⟨k + 1, by omega, by go_num, lacks_succ (unhide HL) (unhide HS) hid'⟩
        case measure => simp [intOf]; omega
    · go_wp2_with fail
      go_ret
      have hR := unhide HX
      rw [find_none (unhide HL) (by have := (unhide HR).1; omega)] at hR
      exact ⟨by rw [← hR]; rfl, rfl⟩

theorem toList_inj {a b : ByteArray} (h : a.toList = b.toList) : a = b := by
  rw [ByteArray.toList_eq, ByteArray.toList_eq] at h
  obtain ⟨⟨x⟩⟩ := a
  obtain ⟨⟨y⟩⟩ := b
  simp at h
  rw [h]

theorem eql30_ne (s r : St) (h : s ≠ r) (w : World) : (binOp .eql 30 (.agg #[.int .i64 s.id, .string s.a, .string s.b]) (.agg #[.int .i64 r.id, .string r.a, .string r.b])).run Tryf.prog w = .ok (.bool false) w := by
  go_simp
  intro h0 h1 h2
  apply h
  obtain ⟨i, a, b⟩ := s
  obtain ⟨j, c, d⟩ := r
  simp only at h0 h1 h2
  rw [h0, toList_inj h1, toList_inj h2]

theorem bcell {W w1 : World} (hb : Below W.heap.size W w1) : (∀ b o, b < W.heap.size → w1.cell? ⟨b, o, none⟩ = W.cell? ⟨b, o, none⟩) ∧ (∀ b o, b < W.heap.size → w1.frozen? ⟨b, o, none⟩ = W.frozen? ⟨b, o, none⟩) :=
  ⟨fun b o h => hb.cell (p := ⟨b, o, none⟩) h, fun b o h => hb.frozen (p := ⟨b, o, none⟩) h⟩

theorem drop_succ {ss : List St} {k : Nat} {s r : St} (h : r ∈ ss.drop k) (hs : ss[k]? = some s) (hne : s ≠ r) : r ∈ ss.drop (k + 1) := by
  have hk := (List.getElem?_eq_some_iff.1 hs).1
  have e : ss[k] = s := (List.getElem?_eq_some_iff.1 hs).2
  rw [List.drop_eq_getElem_cons hk, e] at h
  rcases List.mem_cons.1 h with h | h
  · exact absurd h.symm hne
  · exact h

set_option maxHeartbeats 2000000 in
set_option maxRecDepth 100000 in
theorem iselem11 (r : St) (a : Option Addr) (len cap : Nat) (ss : List St) (w : World) (hr : Row w a len ss) (hlen : len ≤ 1048576) (hmem : r ∈ ss) :
    Calls Tryf.prog 11 #[.agg #[.int .i64 r.id, .string r.a, .string r.b], .slice a len cap] w fun e w' => e = .returned (.bool true) ∧ Below w.heap.size w w' := by
  have HR := hide hr
  have HM := hide hmem
  clear hr hmem
  go_enter Tryf.func11, Tryf.ntmps11
  go_wp2_with fail
  go_loopw [5] (fun i wr => ∃ k : Nat, k ≤ len ∧ i = .int .i64 k ∧ r ∈ ss.drop k ∧ Below (w.heap.size + 1) (w.alloc (.cells #[.int .i64 r.id, .string r.a, .string r.b] 30)) wr) (fun i _ => len - (intOf i).toNat)
  case atStart => exact ⟨0, Nat.zero_le _, rfl, by simpa using unhide HM, Below.refl _ _⟩
  case round =>
    obtain ⟨k, hk, rfl, hd, hbw⟩ := hrel
    have HD := hide hd
    have hz : w.heap.size < wr.heap.size := by have := hbw.size; simp at this; omega
    have hbw' : Below w.heap.size w wr := ((Below.refl _ _).alloc (Nat.le_refl _) _).trans (hbw.mono (by omega))
    clear hd
    by_cases hlt : k < len
    · obtain ⟨hl, h | ⟨g, o, rfl, hg, hc⟩⟩ := unhide HR
      · exact absurd h (by omega)
      obtain ⟨s, hs⟩ : ∃ s, ss[k]? = some s := ⟨ss[k]'(by omega), by simp⟩
      obtain ⟨c0, c1, c2⟩ := (hc k s hs).below hbw' hg
      have b0 : wr.cell? ⟨w.heap.size, 0, none⟩ = some (.int .i64 r.id) := (hbw.cell (p := ⟨w.heap.size, 0, none⟩) (by simp)).trans (World.cell?_alloc_at _ _ _ _ rfl)
      have b1 : wr.cell? ⟨w.heap.size, 1, none⟩ = some (.string r.a) := (hbw.cell (p := ⟨w.heap.size, 1, none⟩) (by simp)).trans (World.cell?_alloc_at _ _ _ _ rfl)
      have b2 : wr.cell? ⟨w.heap.size, 2, none⟩ = some (.string r.b) := (hbw.cell (p := ⟨w.heap.size, 2, none⟩) (by simp)).trans (World.cell?_alloc_at _ _ _ _ rfl)
      have HS := hide hs
      have hl0 : (k : Int) < (len : Int) := by omega
      clear hc hs hl
      by_cases hsr : s = r
      · subst hsr
        go_upto_region 4 with fail
        go_cut [18] (fun v w' => v = .bool true ∧ Below wr.heap.size wr w')
        case first =>
          go_region_with (go_at_call 14; refine (conv14 s _).mono ?_; rintro e w2 ⟨rfl, hb2⟩; have b0' := (hb2.cell (p := ⟨w.heap.size, 0, none⟩) hz).trans b0; have b1' := (hb2.cell (p := ⟨w.heap.size, 1, none⟩) hz).trans b1; have b2' := (hb2.cell (p := ⟨w.heap.size, 2, none⟩) hz).trans b2)
          all_goals
            go_wp2_with fail
            go_meet
            exact ⟨rfl, ((Below.refl _ wr).drew).trans hb2⟩
        case rest =>
          obtain ⟨rfl, hb⟩ := hcut
          go_wp2_with fail
          go_ret
          exact ⟨rfl, hbw'.trans (hb.mono hbw'.size)⟩
      · have heq := eql30_ne s r hsr
        go_upto_region 4 with fail
        go_cut [18] (fun v w' => v = .bool false ∧ Below wr.heap.size wr w')
        case first =>
          go_region_with (go_at_call 14; refine (conv14 s _).mono ?_; rintro e w2 ⟨rfl, hb2⟩; have b0' := (hb2.cell (p := ⟨w.heap.size, 0, none⟩) hz).trans b0; have b1' := (hb2.cell (p := ⟨w.heap.size, 1, none⟩) hz).trans b1; have b2' := (hb2.cell (p := ⟨w.heap.size, 2, none⟩) hz).trans b2)
          all_goals
            go_wp2_with fail
            go_meet
            exact ⟨rfl, ((Below.refl _ wr).drew).trans hb2⟩
        case rest =>
          obtain ⟨rfl, hb⟩ := hcut
          go_wp2_with fail
          go_roundw
          case rel => exact ⟨k + 1, by omega, by go_num, drop_succ (unhide HD) (unhide HS) hsr, hbw.trans (hb.mono hz)⟩
          case measure => simp [intOf]; omega
    · exfalso
      have := unhide HD
      rw [List.drop_eq_nil_of_le (by have := (unhide HR).1; omega)] at this
      simp at this

theorem flat_join_step {sa sb : List St} {k : Nat} {s : St} (h : sb[k]? = some s) : (sa ++ sb.take k).flatMap St.cells ++ s.cells = (sa ++ sb.take (k + 1)).flatMap St.cells := by
  rw [List.flatMap_append, List.flatMap_append, ← flat_take_succ h, List.append_assoc]

set_option maxHeartbeats 2000000 in
theorem join8 (a b : Option Addr) (la ca lb cb : Nat) (sa sb : List St) (w : World) (ha : Row w a la sa) (hb : Row w b lb sb) (hla : la ≤ 1048576) (hlb : lb ≤ 1048576) :
    Calls Tryf.prog 8 #[.slice a la ca, .slice b lb cb] w fun e w' => ∃ (a' : Option Addr) (c' : Nat), e = .returned (.slice a' (la + lb) c') ∧ Row w' a' (la + lb) (sa ++ sb) ∧ Below w.heap.size w w' := by
  obtain ⟨i0, hi, hz0, hz1, hz2⟩ := info_parts Tryf.info30
  have HA := hide ha
  have HB := hide hb
  clear ha hb
  go_enter Tryf.func8, Tryf.ntmps8
  go_wp2_with (at_make; refine wpList_make_own _ rfl _ _ 26 rfl w.heap.size 30 i0 _ 3 Tryf.underlying26 hi hz0 hz1 _ _ _ (la + lb) rfl rfl (by omega) (by rw [hz2]; omega) (by unfold maxLen; omega) (Nat.le_refl _) ?_; intro w6 hown6 hgrow6)
  go_loopw [5, 6] (fun v i wr => ∃ k : Nat, k ≤ la ∧ i = .int .i64 k ∧ v = .slice (some ⟨w.heap.size, 0, none⟩) k (la + lb) ∧ wr.ownsRow w.heap.size 30 3 (.slice (some ⟨w.heap.size, 0, none⟩) k (la + lb)) k ((sa.take k).flatMap St.cells) ∧ Below w.heap.size w wr)
    (fun _ i _ => la - (intOf i).toNat)
  case atStart => exact ⟨0, Nat.zero_le _, rfl, rfl, hown6, (Below.refl _ _).grown hgrow6 (Nat.le_refl _) (fun k h => by cases h)⟩
  case round =>
    obtain ⟨k, hk, rfl, rfl, hown, hbr⟩ := hrel
    have hzr := hbr.size
    clear hown6 hgrow6
    by_cases hlt : k < la
    · obtain ⟨hl, h | ⟨g, o, rfl, hg, hc⟩⟩ := unhide HA
      · exact absurd h (by omega)
      obtain ⟨s, hs⟩ : ∃ s, sa[k]? = some s := ⟨sa[k]'(by omega), by simp⟩
      obtain ⟨c0, c1, c2⟩ := (hc k s hs).below hbr hg
      have HS := hide hs
      have HO := hide hown
      clear hc hs hl hown
      go_wp2_with fail
      refine (conv14 s _).mono ?_
      rintro e w7 ⟨rfl, hb7⟩
      have hz7 := hb7.size
      clear c0 c1 c2
      have hown7 := own_below (unhide HO) hb7
      go_wp2_with (at_builtin; refine wpList_append_fits _ rfl (.tmp 20) (.tmp 26) 26 rfl w.heap.size 30 i0 3 Tryf.underlying26 hi hz1 w.heap.size k (la + lb) _ rfl (hown7.alloc _) ⟨w7.heap.size, 0, none⟩ 1 1 s.cells rfl rfl (news3 _ _) (cells_one s) (by omega) ?_; intro w8 hown8 hgrow8)
      rw [flat_take_succ (unhide HS)] at hown8
      go_roundw
      case rel => exact ⟨k + 1, by omega, by go_num, rfl, hown8, ((hbr.trans (hb7.mono hbr.size)).alloc (by omega) _).grown hgrow8 (by simp; omega) (fun k hk => by cases hk; exact Nat.le_refl _)⟩
      case measure => simp [intOf]; omega
    · have hkl : la = k := by omega
      subst hkl
      have hl := (unhide HA).1
      have HO : Hid (wr.ownsRow w.heap.size 30 3 (.slice (some ⟨w.heap.size, 0, none⟩) (la + 0) (la + lb)) (la + 0) ((sa ++ sb.take 0).flatMap St.cells)) := by
        rw [List.take_of_length_le (by omega)] at hown
        exact hide (by simpa using hown)
      obtain ⟨wl, rfl⟩ : ∃ wl : World, wl = wr := ⟨_, rfl⟩
      clear hown hk hl
      go_wp2_with fail
      clear hlt
      go_loopw [5, 7] (fun v i wr => ∃ k : Nat, k ≤ lb ∧ i = .int .i64 k ∧ v = .slice (some ⟨w.heap.size, 0, none⟩) (la + k) (la + lb) ∧ wr.ownsRow w.heap.size 30 3 (.slice (some ⟨w.heap.size, 0, none⟩) (la + k) (la + lb)) (la + k) ((sa ++ sb.take k).flatMap St.cells) ∧ Below w.heap.size w wr)
        (fun _ i _ => lb - (intOf i).toNat)
      case atStart => exact ⟨0, Nat.zero_le _, rfl, rfl, unhide HO, hbr⟩
      case round =>
        obtain ⟨k, hk, rfl, rfl, hown, hbr2⟩ := hrel
        have hzr2 := hbr2.size
        clear HO hbr hzr
        by_cases hlt : k < lb
        · obtain ⟨hl, h | ⟨g, o, rfl, hg, hc⟩⟩ := unhide HB
          · exact absurd h (by omega)
          obtain ⟨s, hs⟩ : ∃ s, sb[k]? = some s := ⟨sb[k]'(by omega), by simp⟩
          obtain ⟨c0, c1, c2⟩ := (hc k s hs).below hbr2 hg
          have HS := hide hs
          have HO := hide hown
          clear hc hs hl hown
          go_wp2_with fail
          refine (conv14 s _).mono ?_
          rintro e w7 ⟨rfl, hb7⟩
          have hz7 := hb7.size
          clear c0 c1 c2
          have hown7 := own_below (unhide HO) hb7
          go_wp2_with (at_builtin; refine wpList_append_fits _ rfl (.tmp 34) (.tmp 40) 26 rfl w.heap.size 30 i0 3 Tryf.underlying26 hi hz1 w.heap.size (la + k) (la + lb) _ rfl (hown7.alloc _) ⟨w7.heap.size, 0, none⟩ 1 1 s.cells rfl rfl (news3 _ _) (cells_one s) (by omega) ?_; intro w8 hown8 hgrow8)
          rw [flat_join_step (unhide HS)] at hown8
          go_roundw
          case rel => exact ⟨k + 1, by omega, by go_num, rfl, hown8, ((hbr2.trans (hb7.mono hbr2.size)).alloc (by omega) _).grown hgrow8 (by simp; omega) (fun k hk => by cases hk; exact Nat.le_refl _)⟩
          case measure => simp [intOf]; omega
        · have hkl : lb = k := by omega
          subst hkl
          have hl := (unhide HA).1
          have hl2 := (unhide HB).1
          rw [List.take_of_length_le (by omega)] at hown
          have HRW := hide (row_of_own hown (by simp; omega))
          clear hown hk hl hl2
          go_wp2_with fail
          go_ret
          exact ⟨_, _, rfl, unhide HRW, hbr2⟩

end Go.Proofs.Qxb6630572aFmt
