/-
  THE WALK of FnSiteInsertOne (function 4).
-/
import Derived.Test.Qxb6630572aFmtRowsOf
import Derived.BigQuiet
import Derived.Deep.QuietTactic
namespace Go.Proofs.Qxb6630572aFmt
open Go.RowKit Go.Extern.Stop Go.Stop Go.Extern

set_option maxHeartbeats 4000000 in
set_option maxRecDepth 100000 in
theorem insert_walk (F : Interp) (a : Option Addr) (len cap : Nat) (ss : List St) (x : St) (p id : Int) (w : World) (hF : F.answers w.tape) (hr : Row w a len ss) (hnil : a = none → len = 0 ∧ cap = 0) (hlc : len ≤ cap) :
    Calls Tryf.prog 4 #[.slice a len cap, .agg #[.int .i64 x.id, .string x.a, .string x.b], .int .i64 p, .int .i64 id] w fun e w' => e = .returned (.bool true) ∧ Below w.heap.size w w' := by
  obtain ⟨i0, hi, hz0, hz1, hz2⟩ := info_parts Tryf.info30
  have HF := hide hF
  have HR := hide hr
  have HN := hide hnil
  clear hF hr hnil
  go_enter Tryf.func4, Tryf.ntmps4
  go_wp2_with fail
  refine (bytes12 a len cap ss x p id _ ((unhide HR).below ((Below.refl _ _).alloc (Nat.le_refl _) _))).mono ?_
  intro e w1 h1
  obtain ⟨ok, rfl, hok, hb⟩ := h1
  have hsz : w.heap.size < w1.heap.size := by have := hb.size; simp at this; omega
  have hbw : Below w.heap.size w w1 := ((Below.refl _ _).alloc (Nat.le_refl _) _).trans (hb.mono (by simp))
  cases ok
  · go_wp2_with fail
    go_ret
    exact ⟨rfl, hbw⟩
  have hlen := hok rfl
  have HX : Hid (At w1 w.heap.size 0 x) := hide ⟨(hb.cell (p := ⟨w.heap.size, 0, none⟩) (by simp)).trans (World.cell?_alloc_at _ _ _ _ rfl), (hb.cell (p := ⟨w.heap.size, 0 + 1, none⟩) (by simp)).trans (World.cell?_alloc_at _ _ _ _ rfl), (hb.cell (p := ⟨w.heap.size, 0 + 2, none⟩) (by simp)).trans (World.cell?_alloc_at _ _ _ _ rfl)⟩
  have HR1 := hide ((unhide HR).below hbw)
  have HF1 : Hid (F.answers w1.tape) := hide (by rw [hbw.tape]; exact unhide HF)
  clear hb hok HR HF
  -- the sites' bytes
  go_wp2_with fail
  refine (sites6 0 a len cap ss _ (by omega) (by omega) hlen (unhide HR1)).mono ?_
  rintro e w2 ⟨t1, ok1, rfl, q0, q1, hb2⟩
  cases ok1
  · go_wp2_with fail
    go_ret
    exact ⟨rfl, hbw.trans (hb2.mono hbw.size)⟩
  obtain ⟨x0, x1, x2⟩ := (unhide HX).below hb2 hsz
  simp only [Nat.zero_add] at x1 x2
  go_wp2_with fail
  refine (site13 t1 x _ q0 q1).mono ?_
  rintro e w3 ⟨t2, ok2, rfl, r0, r1, hb3⟩
  have hb13 := hb2.trans (hb3.mono hb2.size)
  clear x0 x1 x2
  cases ok2
  · go_wp2_with fail
    go_ret
    exact ⟨rfl, hbw.trans (hb13.mono hbw.size)⟩
  by_cases hp : 0 ≤ p ∧ p ≤ len
  · obtain ⟨hp0, hp1⟩ := hp
    obtain ⟨P, rfl⟩ := Int.eq_ofNat_of_zero_le hp0
    have hP : P ≤ len := by omega
    go_wp2_with fail
    refine (to7 a len cap ss _ ((unhide HR1).below hb13) hlen (fun h => (unhide HN h).1)).mono ?_
    rintro e w4 ⟨v4, rfl, ⟨a4, c4, hv4, hrow4⟩, hb4⟩
    rw [(unhide HR1).1] at hv4 hrow4
    rw [hv4]
    have HR4 := hide hrow4
    have hb14 := hb13.trans (hb4.mono hb13.size)
    clear hv4 hrow4
    have hsl := slice_to a len cap P (by omega) (fun h => (unhide HN h).2)
    go_wp2_with fail
    refine (to7 a P cap (ss.take P) _ (((unhide HR1).take P hP).below hb14) (by omega) (fun h => by have := (unhide HN h).1; omega)).mono ?_
    rintro e w5 ⟨v5, rfl, ⟨a5, c5, hv5, hrow5⟩, hb5⟩
    rw [((unhide HR1).take P hP).1] at hv5 hrow5
    rw [hv5]
    have HR5 := hide hrow5
    have HR4' := hide ((unhide HR4).below hb5)
    have hb15 := hb14.trans (hb5.mono hb14.size)
    have hz15 := hb15.size
    clear hv5 hrow5 hb2 hb3 hb4 hb13 hb5 hb14 HR4 hsl q0 q1 r0 r1
    go_wp2_with (at_make; refine wpList_make_own _ rfl _ _ 26 rfl w5.heap.size 30 i0 _ 3 Tryf.underlying26 hi hz0 hz1 _ _ _ (len + 1) rfl rfl (by omega) (by rw [hz2]; omega) (by unfold maxLen; omega) (Nat.le_refl _) ?_; intro w6 hown6 hgrow6)
    go_loopw [13, 14] (fun v i wr => ∃ k : Nat, k ≤ P ∧ i = .int .i64 k ∧ v = .slice (some ⟨w5.heap.size, 0, none⟩) k (len + 1) ∧ wr.ownsRow w5.heap.size 30 3 (.slice (some ⟨w5.heap.size, 0, none⟩) k (len + 1)) k ((ss.take k).flatMap St.cells) ∧ Below w5.heap.size w5 wr)
      (fun _ i _ => P - (intOf i).toNat)
    case atStart => exact ⟨0, Nat.zero_le _, rfl, rfl, hown6, (Below.refl _ _).grown hgrow6 (Nat.le_refl _) (fun k h => by cases h)⟩
    case round =>
      obtain ⟨k, hk, rfl, rfl, hown, hbr⟩ := hrel
      have hzr := hbr.size
      clear hown6 hgrow6
      by_cases hlt : k < P
      · obtain ⟨hl, h | ⟨g, o, rfl, hg, hc⟩⟩ := unhide HR1
        · exact absurd h (by omega)
        obtain ⟨s, hs⟩ : ∃ s, ss[k]? = some s := ⟨ss[k]'(by omega), by simp⟩
        obtain ⟨c0, c1, c2⟩ := ((hc k s hs).below hb15 hg).below hbr (by omega)
        have HS := hide hs
        have HO := hide hown
        clear hc hs hl hown
        go_wp2_with fail
        refine (conv14 s _).mono ?_
        rintro e w7 ⟨rfl, hb7⟩
        have hz7 := hb7.size
        clear c0 c1 c2
        have hown7 := own_below (unhide HO) hb7
        go_wp2_with (at_builtin; refine wpList_append_fits _ rfl (.tmp 68) (.tmp 74) 26 rfl w5.heap.size 30 i0 3 Tryf.underlying26 hi hz1 w5.heap.size k (len + 1) _ rfl (hown7.alloc _) ⟨w7.heap.size, 0, none⟩ 1 1 s.cells rfl rfl (news3 _ _) (cells_one s) (by omega) ?_; intro w8 hown8 hgrow8)
        rw [flat_take_succ (unhide HS)] at hown8
        go_roundw
        case rel => exact ⟨k + 1, by omega, by go_num, rfl, hown8, ((hbr.trans (hb7.mono hbr.size)).alloc (by omega) _).grown hgrow8 (by simp; omega) (fun k hk => by cases hk; exact Nat.le_refl _)⟩
        case measure => simp [intOf]; omega
      · have hkl : P = k := by omega
        subst hkl
        obtain ⟨w6, rfl⟩ : ∃ w6 : World, w6 = wr := ⟨_, rfl⟩
        have hb16 := hb15.trans (hbr.mono hb15.size)
        obtain ⟨x0, x1, x2⟩ := (unhide HX).below hb16 hsz
        simp only [Nat.zero_add] at x1 x2
        have HO := hide hown
        clear hown hlt hk
        go_wp2_with fail
        refine (conv14 x _).mono ?_
        rintro e w7 ⟨rfl, hb7⟩
        have hz7 := hb7.size
        clear x0 x1 x2
        have hown7 := own_below (unhide HO) hb7
        go_wp2_with (at_builtin; refine wpList_append_fits _ rfl (.tmp 76) (.tmp 79) 26 rfl w5.heap.size 30 i0 3 Tryf.underlying26 hi hz1 w5.heap.size P (len + 1) _ rfl (hown7.alloc _) ⟨w7.heap.size, 0, none⟩ 1 1 x.cells rfl rfl (news3 _ _) (cells_one x) (by omega) ?_; intro w8 hown8 hgrow8)
        have hb58 : Below w5.heap.size w5 w8 := ((hbr.trans (hb7.mono hbr.size)).alloc (by omega) _).grown hgrow8 (by simp; omega) (fun k hk => by cases hk; exact Nat.le_refl _)
        rw [putIn_start] at hown8
        have HO8 := hide hown8
        clear hown7 hown8 hgrow8 hb7 hz7 hbr hzr hb16 HO
        go_loopw [13, 15] (fun v i wr => ∃ k : Nat, P ≤ k ∧ k ≤ len ∧ i = .int .i64 k ∧ v = .slice (some ⟨w5.heap.size, 0, none⟩) (k + 1) (len + 1) ∧ wr.ownsRow w5.heap.size 30 3 (.slice (some ⟨w5.heap.size, 0, none⟩) (k + 1) (len + 1)) (k + 1) ((putIn ss x P k).flatMap St.cells) ∧ Below w5.heap.size w5 wr)
          (fun _ i _ => len - (intOf i).toNat)
        case atStart => exact ⟨P, Nat.le_refl _, hP, rfl, rfl, unhide HO8, hb58⟩
        case round =>
          obtain ⟨k, hPk, hk, rfl, rfl, hown, hbr⟩ := hrel
          have hzr := hbr.size
          clear HO8 hb58
          by_cases hlt : k < len
          · obtain ⟨hl, h | ⟨g, o, rfl, hg, hc⟩⟩ := unhide HR1
            · exact absurd h (by omega)
            obtain ⟨s, hs⟩ : ∃ s, ss[k]? = some s := ⟨ss[k]'(by omega), by simp⟩
            obtain ⟨c0, c1, c2⟩ := ((hc k s hs).below hb15 hg).below hbr (by omega)
            have HS := hide hs
            have HO := hide hown
            clear hc hs hl hown
            go_wp2_with fail
            refine (conv14 s _).mono ?_
            rintro e w7 ⟨rfl, hb7⟩
            have hz7 := hb7.size
            clear c0 c1 c2
            have hown7 := own_below (unhide HO) hb7
            go_wp2_with (at_builtin; refine wpList_append_fits _ rfl (.tmp 88) (.tmp 94) 26 rfl w5.heap.size 30 i0 3 Tryf.underlying26 hi hz1 w5.heap.size (k + 1) (len + 1) _ rfl (hown7.alloc _) ⟨w7.heap.size, 0, none⟩ 1 1 s.cells rfl rfl (news3 _ _) (cells_one s) (by omega) ?_; intro w8 hown8 hgrow8)
            rw [putIn_step (unhide HS) hPk] at hown8
            go_roundw
            case rel => exact ⟨k + 1, by omega, by omega, by go_num, rfl, hown8, ((hbr.trans (hb7.mono hbr.size)).alloc (by omega) _).grown hgrow8 (by simp; omega) (fun k hk => by cases hk; exact Nat.le_refl _)⟩
            case measure => simp [intOf]; omega
          · have hkl : len = k := by omega
            subst hkl
            obtain ⟨w6, rfl⟩ : ∃ w6 : World, w6 = wr := ⟨_, rfl⟩
            have hl := (unhide HR1).1
            have hrt : Row w6 (some ⟨w5.heap.size, 0, none⟩) (len + 1) (ss.take P ++ x :: ss.drop P) := by
              refine row_of_own (base := w5.heap.size) (cap := len + 1) ?_ (by simp; omega)
              rw [← putIn_end, hl]; exact hown
            have hb16 := hb15.trans (hbr.mono hb15.size)
            have HRT := hide hrt
            have HRS := hide ((unhide HR4').below hbr)
            have HRP := hide ((unhide HR5).below hbr)
            have HF6 : Hid (F.answers w6.tape) := hide (by rw [hb16.tape]; exact unhide HF1)
            have hz6 : w.heap.size < w6.heap.size := by have := hb16.size; omega
            have HX6 := hide ((unhide HX).below hb16 hsz)
            have hbw6 : Below w.heap.size w w6 := hbw.trans (hb16.mono hbw.size)
            clear hown hlt hk hrt hl hPk hbr hzr HR4' HR5 hb15 hz15 HR1 HF1 hb16 HX hbw hsz
            go_wp2_with fail
            refine (lookup F _ a4 len c4 ss id w6 rfl (unhide HF6) (unhide HRS) (by omega)).mono ?_
            rintro e w9 ⟨rs, errs, rfl, hress, hb69, hz9⟩
            -- the second lookup
            have hb0 : Below w9.heap.size w9 (w9.alloc (.cells #[.int .i64 rs.id, .string rs.a, .string rs.b] 30)) := (Below.refl _ _).alloc (Nat.le_refl _) _
            go_wp2_with fail
            refine (lookup F _ (some ⟨w5.heap.size, 0, none⟩) (len + 1) (len + 1) _ id (w9.alloc (.cells #[.int .i64 rs.id, .string rs.a, .string rs.b] 30)) (by simp) (by rw [show (w9.alloc (.cells #[.int .i64 rs.id, .string rs.a, .string rs.b] 30)).tape = w9.tape from rfl, hb69.tape]; exact unhide HF6) (((unhide HRT).below hb69).below hb0) (by omega)).mono ?_
            rintro e w10 ⟨rt, errt, rfl, hrest, hb10, hz10⟩
            have hb910 : Below w9.heap.size w9 w10 := hb0.trans (hb10.mono (by simp))
            have HS10 := hide ((at_new w9 rs _ rfl).below hb10 (by simp))
            have hb610 : Below w6.heap.size w6 w10 := hb69.trans (hb910.mono hb69.size)
            clear hb0 hb10 HRT HRS
            -- the third lookup
            have hb0 : Below w10.heap.size w10 (w10.alloc (.cells #[.int .i64 rt.id, .string rt.a, .string rt.b] 30)) := (Below.refl _ _).alloc (Nat.le_refl _) _
            go_wp2_with fail
            refine (lookup F _ a5 P c5 _ id (w10.alloc (.cells #[.int .i64 rt.id, .string rt.a, .string rt.b] 30)) (by simp) (by rw [show (w10.alloc (.cells #[.int .i64 rt.id, .string rt.a, .string rt.b] 30)).tape = w10.tape from rfl, hb610.tape]; exact unhide HF6) (((unhide HRP).below hb610).below hb0) (by omega)).mono ?_
            rintro e w11 ⟨rp, errp, rfl, hresp, hb11, hz11⟩
            have hb1011 : Below w10.heap.size w10 w11 := hb0.trans (hb11.mono (by simp))
            have HT11 := hide ((at_new w10 rt _ rfl).below hb11 (by simp))
            have HS11 := hide ((unhide HS10).below hb1011 (by omega))
            have hb611 : Below w6.heap.size w6 w11 := hb610.trans (hb1011.mono hb610.size)
            clear hb0 hb11 HRP HS10
            have k1 : w.heap.size < w11.heap.size := by omega
            have k2 : w.heap.size < w11.heap.size + 1 := by omega
            obtain ⟨x0, x1, x2⟩ := (unhide HX6).below hb611 hz6
            simp only [Nat.zero_add] at x1 x2
            have hb0 : Below w11.heap.size w11 ((w11.alloc (.cells #[.int .i64 rp.id, .string rp.a, .string rp.b] 30)).alloc (.cells #[.int .i64 0, .string ⟨#[]⟩, .string ⟨#[]⟩] 30)) := ((Below.refl _ _).alloc (Nat.le_refl _) _).alloc (by simp) _
            have HRS := hide hress
            have HRT := hide hrest
            have HRP := hide hresp
            clear hress hrest hresp
            go_wp2_with fail
            refine (conv14 x _).mono ?_
            rintro e w12 ⟨rfl, hb12⟩
            clear x0 x1 x2
            have hb12' : Below w11.heap.size w11 w12 := hb0.trans (hb12.mono (by simp; omega))
            have hz12 : w11.heap.size + 2 ≤ w12.heap.size := by have := hb12.size; simp at this; omega
            obtain ⟨s0, s1, s2⟩ := (unhide HS11).below hb12' (by omega)
            obtain ⟨t0, t1', t2'⟩ := (unhide HT11).below hb12' (by omega)
            obtain ⟨p0, p1, p2⟩ := (((at_new w11 rp _ rfl).below ((Below.refl _ _).alloc (Nat.le_refl _) _) (by simp)).below hb12 (by simp; omega))
            obtain ⟨z0, z1, z2⟩ := ((at_new (w11.alloc (.cells #[.int .i64 rp.id, .string rp.a, .string rp.b] 30)) zeroSt (w11.heap.size + 1) (by simp)).below hb12 (by simp))
            obtain ⟨x0, x1, x2⟩ := (unhide HX6).below (hb611.trans (hb12'.mono hb611.size)) hz6
            simp only [Nat.zero_add] at x1 x2 s1 s2 t1' t2' p1 p2 z1 z2
            simp only [zeroSt] at z0 z1 z2
            have g1 : w.heap.size < w12.heap.size := by omega
            have g2 : w9.heap.size < w12.heap.size := by omega
            have g3 : w10.heap.size < w12.heap.size := by omega
            have g4 : w11.heap.size < w12.heap.size := by omega
            have g5 : w11.heap.size + 1 < w12.heap.size := by omega
            have hbw12 : Below w.heap.size w w12 := hbw6.trans ((hb611.trans (hb12'.mono hb611.size)).mono hbw6.size)
            have HBW := hide (hbw12.alloc (by omega) (.cells #[.int .i64 x.id, .string x.a, .string x.b] 30))
            clear hb0 hb12 hb12' hb611 hb1011 hb610 hb910 hb69 HX6 HS11 HT11 HF6 hbw6 hbw12 k1 k2 hz6 hz9 hz10 hz11 hz12 hi hz0 hz1 hz2 HN
            by_cases hxi : (x.id == id) = true
            · have hfi := find_insert_eq (ss := ss) (p := P) hxi
              have hbne : (x.id != id) = false := by simpa using hxi
              rcases unhide HRT with ⟨hf2, rfl⟩ | ⟨hf2, _⟩
              · rw [hfi] at hf2
                have hrt := Option.some.inj hf2
                rcases unhide HRP with ⟨hf, rfl⟩ | ⟨hf, rfl, ps, rfl⟩
                · rw [hf] at hrt
                  simp only [Option.getD_some] at hrt
                  subst hrt
                  have hid := find_id hf
                  have hne : (rp.id != id) = false := by simpa using hid
                  clear hf hf2 hfi HRS HRT HRP hxi
                  go_wp2_with fail
                  go_ret
                  exact ⟨rfl, unhide HBW⟩
                · rw [hf] at hrt
                  simp only [Option.getD_none] at hrt
                  subst hrt
                  simp only [zeroSt] at p0 p1 p2
                  clear hf hf2 hfi HRS HRT HRP
                  go_wp2_with fail
                  go_ret
                  exact ⟨rfl, unhide HBW⟩
              · rw [hfi] at hf2; cases hf2
            · have hxf : (x.id == id) = false := by simpa using hxi
              clear hxi
              have hfi := find_insert_ne (ss := ss) (p := P) hxf
              have hbne : (x.id != id) = true := by simpa using hxf
              rcases unhide HRS with ⟨hf, rfl⟩ | ⟨hf, rfl, ps, rfl⟩
              · rcases unhide HRT with ⟨hf2, rfl⟩ | ⟨hf2, _⟩
                · rw [hfi, hf] at hf2
                  obtain rfl := Option.some.inj hf2
                  have hid := find_id hf
                  clear hf hf2 hfi HRS HRT HRP
                  go_wp2_with fail
                  go_quiet (fail)
                  go_wp2_with fail
                  go_ret
                  exact ⟨rfl, below_drewN (unhide HBW) _⟩
                · rw [hfi, hf] at hf2; cases hf2
              · rcases unhide HRT with ⟨hf2, _⟩ | ⟨hf2, rfl, pt, rfl⟩
                · rw [hfi, hf] at hf2; cases hf2
                · simp only [zeroSt] at s0 s1 s2 t0 t1' t2'
                  clear hf hf2 hfi HRS HRT HRP
                  go_wp2_with fail
                  go_quiet (fail)
                  go_wp2_with fail
                  go_ret
                  exact ⟨rfl, below_drewN (unhide HBW) _⟩
  · by_cases hneg : p < 0
    · go_wp2_with fail
      go_ret
      exact ⟨rfl, hbw.trans (hb13.mono hbw.size)⟩
    · have hbig : (len : Int) < p := by omega
      go_wp2_with fail
      go_ret
      exact ⟨rfl, hbw.trans (hb13.mono hbw.size)⟩

end Go.Proofs.Qxb6630572aFmt
