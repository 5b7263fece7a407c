/-
  THE WALK of FnSiteFirstMatchOverCut (function 3).
-/
import Derived.Test.Qxb6630572aFmtMore
namespace Go.Proofs.Qxb6630572aFmt
open Go.RowKit Go.Extern.Stop Go.Stop Go.Extern

theorem hasid10_of (a : Option Addr) (len cap : Nat) (ss : List St) (id : Int) (R : Bool) (w : World) (hr : Row w a len ss) (hlen : len ≤ 1048576) (hR : (ss.find? (fun s => s.id == id)).isSome = R) :
    Calls Tryf.prog 10 #[.slice a len cap, .int .i64 id] w fun e w' => e = .returned (.bool R) ∧ w' = w := by
  rw [← hR]; exact hasid10 a len cap ss id w hr hlen

set_option maxHeartbeats 4000000 in
set_option maxRecDepth 100000 in
theorem cut_walk (F : Interp) (a b : Option Addr) (la ca lb cb : Nat) (sa sb : List St) (id : Int) (w : World) (hF : F.answers w.tape) (ha : Row w a la sa) (hb : Row w b lb sb) (hna : a = none → la = 0) (hnb : b = none → lb = 0) :
    Calls Tryf.prog 3 #[.slice a la ca, .slice b lb cb, .int .i64 id] w fun e w' => e = .returned (.bool true) ∧ Below w.heap.size w w' := by
  have HF := hide hF
  have HA := hide ha
  have HB := hide hb
  have HNA := hide hna
  have HNB := hide hnb
  clear hF ha hb hna hnb
  go_enter Tryf.func3, Tryf.ntmps3
  go_wp2_with fail
  refine (bytes5 a b la ca lb cb sa sb id _ (unhide HA) (unhide HB)).mono ?_
  intro e w' h1
  obtain ⟨ok, rfl, hok, hw⟩ := h1
  obtain rfl := hw.symm
  cases ok
  · go_wp2_with fail
    go_ret
    exact ⟨rfl, Below.refl _ _⟩
  obtain ⟨hla, hlb⟩ := hok rfl
  clear hok hw
  go_wp2_with fail
  refine (sites6 0 a la ca sa _ (by omega) (by omega) hla (unhide HA)).mono ?_
  rintro e w1 ⟨t1, ok1, rfl, q0, q1, hb1⟩
  cases ok1
  · go_wp2_with fail
    go_ret
    exact ⟨rfl, hb1⟩
  go_wp2_with fail
  refine (sites6 t1 b lb cb sb _ q0 q1 hlb ((unhide HB).below hb1)).mono ?_
  rintro e w2 ⟨t2, ok2, rfl, r0, r1, hb2⟩
  have hbw2 := hb1.trans (hb2.mono hb1.size)
  cases ok2
  · go_wp2_with fail
    go_ret
    exact ⟨rfl, hbw2⟩
  clear hb1 hb2 q0 q1 r0 r1
  -- three clusters
  go_wp2_with fail
  refine (to7 a la ca sa _ ((unhide HA).below hbw2) hla (unhide HNA)).mono ?_
  rintro e w3 ⟨v3, rfl, ⟨a3, c3, hv3, hrow3⟩, hb3⟩
  rw [(unhide HA).1] at hv3 hrow3
  rw [hv3]
  have hbw3 := hbw2.trans (hb3.mono hbw2.size)
  have HR3 := hide hrow3
  clear hv3 hrow3 hb3 hbw2
  go_wp2_with fail
  refine (to7 b lb cb sb _ ((unhide HB).below hbw3) hlb (unhide HNB)).mono ?_
  rintro e w4 ⟨v4, rfl, ⟨a4, c4, hv4, hrow4⟩, hb4⟩
  rw [(unhide HB).1] at hv4 hrow4
  rw [hv4]
  have hbw4 := hbw3.trans (hb4.mono hbw3.size)
  have HR4 := hide hrow4
  have HR3' := hide ((unhide HR3).below hb4)
  clear hv4 hrow4 hb4 hbw3 HR3
  go_wp2_with fail
  refine (join8 a b la ca lb cb sa sb _ ((unhide HA).below hbw4) ((unhide HB).below hbw4) hla hlb).mono ?_
  rintro e w5 ⟨a5, c5, rfl, hrow5, hb5⟩
  have hbw5 := hbw4.trans (hb5.mono hbw4.size)
  have HR5 := hide hrow5
  have HRA := hide ((unhide HR3').below hb5)
  have HRB := hide ((unhide HR4).below hb5)
  have HF5 : Hid (F.answers w5.tape) := hide (by rw [hbw5.tape]; exact unhide HF)
  clear hrow5 hb5 hbw4 HR3' HR4 HF HNA HNB
  -- the lookup in a
  go_wp2_with fail
  refine (lookup F _ a3 la c3 sa id w5 rfl (unhide HF5) (unhide HRA) (by omega)).mono ?_
  rintro e w9 ⟨ra, erra, rfl, hresa, hb59, hz9⟩
  -- the lookup in b
  have hb0 : Below w9.heap.size w9 (w9.alloc (.cells #[.int .i64 ra.id, .string ra.a, .string ra.b] 30)) := (Below.refl _ _).alloc (Nat.le_refl _) _
  go_wp2_with fail
  refine (lookup F _ a4 lb c4 sb id (w9.alloc (.cells #[.int .i64 ra.id, .string ra.a, .string ra.b] 30)) (by simp) (by rw [show (w9.alloc (.cells #[.int .i64 ra.id, .string ra.a, .string ra.b] 30)).tape = w9.tape from rfl, hb59.tape]; exact unhide HF5) (((unhide HRB).below hb59).below hb0) (by omega)).mono ?_
  rintro e w10 ⟨rb, errb, rfl, hresb, hb10, hz10⟩
  have hb910 : Below w9.heap.size w9 w10 := hb0.trans (hb10.mono (by simp))
  have HA10 := hide ((at_new w9 ra _ rfl).below hb10 (by simp))
  have hb510 : Below w5.heap.size w5 w10 := hb59.trans (hb910.mono hb59.size)
  clear hb0 hb10 HRA HRB
  -- the lookup in a ++ b
  have hb0 : Below w10.heap.size w10 (w10.alloc (.cells #[.int .i64 rb.id, .string rb.a, .string rb.b] 30)) := (Below.refl _ _).alloc (Nat.le_refl _) _
  go_wp2_with fail
  refine (lookup F _ a5 (la + lb) c5 _ id (w10.alloc (.cells #[.int .i64 rb.id, .string rb.a, .string rb.b] 30)) (by simp) (by rw [show (w10.alloc (.cells #[.int .i64 rb.id, .string rb.a, .string rb.b] 30)).tape = w10.tape from rfl, hb510.tape]; exact unhide HF5) (((unhide HR5).below hb510).below hb0) (by omega)).mono ?_
  rintro e w11 ⟨r, err, rfl, hres, hb11, hz11⟩
  have hb1011 : Below w10.heap.size w10 w11 := hb0.trans (hb11.mono (by simp))
  have HB11 := hide ((at_new w10 rb _ rfl).below hb11 (by simp))
  have HA11 := hide ((unhide HA10).below hb1011 (by omega))
  have hb511 : Below w5.heap.size w5 w11 := hb510.trans (hb1011.mono hb510.size)
  have hbw11 : Below w.heap.size w w11 := hbw5.trans (hb511.mono hbw5.size)
  clear hb0 hb11 HR5 HA10
  obtain ⟨x0, x1, x2⟩ := unhide HA11
  obtain ⟨y0, y1, y2⟩ := unhide HB11
  simp only [Nat.zero_add] at x1 x2 y1 y2
  have g1 : w9.heap.size < w11.heap.size := by omega
  have g2 : w9.heap.size < w11.heap.size + 1 := by omega
  have g3 : w10.heap.size < w11.heap.size := by omega
  have g4 : w10.heap.size < w11.heap.size + 1 := by omega
  have HBZ : Hid (Below w.heap.size w ((w11.alloc (.cells #[.int .i64 r.id, .string r.a, .string r.b] 30)).alloc (.cells #[.int .i64 0, .string ⟨#[]⟩, .string ⟨#[]⟩] 30))) := hide ((hbw11.alloc (by have := hbw11.size; omega) _).alloc (by have := hbw11.size; simp; omega) _)
  have HA12 := hide ((unhide HA).below (unhide HBZ))
  have HB12 := hide ((unhide HB).below (unhide HBZ))
  have HSA := hide hresa
  have HSB := hide hresb
  have HSR := hide hres
  clear hresa hresb hres hb511 hb1011 hb510 hb910 hb59 hbw5 hbw11 HF5 HA HB HA11 HB11
  have happ : (sa ++ sb).find? (fun s => s.id == id) = ((sa.find? (fun s => s.id == id)).or (sb.find? (fun s => s.id == id))) := List.find?_append
  rcases unhide HSA with ⟨hfa, rfl⟩ | ⟨hfa, rfl, pa, rfl⟩
  · -- a holds a site with that id
    rw [hfa] at happ
    simp only [Option.some_or] at happ
    rcases unhide HSR with ⟨hfr, rfl⟩ | ⟨hfr, _⟩
    · rw [happ] at hfr
      obtain rfl := Option.some.inj hfr
      have hid := find_id hfa
      have HM := hide (List.mem_of_find?_eq_some hfa)
      have HI : Hid ((sa.find? (fun s => s.id == id)).isSome = true) := hide (by rw [hfa]; rfl)
      clear happ hfr hfa HSA HSB HSR
      go_wp2_with fail
      refine (hasid10_of a la ca sa id true _ (unhide HA12) hla (unhide HI)).mono ?_
      rintro e w' ⟨rfl, hw⟩
      obtain rfl := hw.symm
      clear hw
      go_wp2_with fail
      refine (iselem11 ra a la ca sa _ (unhide HA12) hla (unhide HM)).mono ?_
      rintro e w12 ⟨rfl, hb12⟩
      have z0 := (hb12.cell (p := ⟨w9.heap.size, 0, none⟩) (by simp; omega)).trans ((World.cell?_alloc_past _ _ _ (by simp; omega)).trans ((World.cell?_alloc_past _ _ _ g1).trans x0))
      have z1 := (hb12.cell (p := ⟨w9.heap.size, 1, none⟩) (by simp; omega)).trans ((World.cell?_alloc_past _ _ _ (by simp; omega)).trans ((World.cell?_alloc_past _ _ _ g1).trans x1))
      have z2 := (hb12.cell (p := ⟨w9.heap.size, 2, none⟩) (by simp; omega)).trans ((World.cell?_alloc_past _ _ _ (by simp; omega)).trans ((World.cell?_alloc_past _ _ _ g1).trans x2))
      have u0 : w12.cell? ⟨w11.heap.size, 0, none⟩ = some (.int .i64 ra.id) := (hb12.cell (p := ⟨w11.heap.size, 0, none⟩) (by simp; omega)).trans ((World.cell?_alloc_past _ _ _ (by simp)).trans (World.cell?_alloc_at _ _ _ _ rfl))
      have u1 : w12.cell? ⟨w11.heap.size, 1, none⟩ = some (.string ra.a) := (hb12.cell (p := ⟨w11.heap.size, 1, none⟩) (by simp; omega)).trans ((World.cell?_alloc_past _ _ _ (by simp)).trans (World.cell?_alloc_at _ _ _ _ rfl))
      have u2 : w12.cell? ⟨w11.heap.size, 2, none⟩ = some (.string ra.b) := (hb12.cell (p := ⟨w11.heap.size, 2, none⟩) (by simp; omega)).trans ((World.cell?_alloc_past _ _ _ (by simp)).trans (World.cell?_alloc_at _ _ _ _ rfl))
      have HBW := hide ((unhide HBZ).trans (hb12.mono (unhide HBZ).size))
      clear hb12
      go_wp2_with fail
      go_ret
      exact ⟨rfl, unhide HBW⟩
    · rw [happ] at hfr; cases hfr
  · rw [hfa] at happ
    simp only [Option.none_or] at happ
    have HIA : Hid ((sa.find? (fun s => s.id == id)).isSome = false) := hide (by rw [hfa]; rfl)
    simp only [zeroSt] at x0 x1 x2
    rcases unhide HSB with ⟨hfb, rfl⟩ | ⟨hfb, rfl, pb, rfl⟩
    · rcases unhide HSR with ⟨hfr, rfl⟩ | ⟨hfr, _⟩
      · rw [happ, hfb] at hfr
        obtain rfl := Option.some.inj hfr
        have hid := find_id hfb
        have HM := hide (List.mem_of_find?_eq_some hfb)
        have HI : Hid ((sb.find? (fun s => s.id == id)).isSome = true) := hide (by rw [hfb]; rfl)
        clear happ hfr hfa hfb HSA HSB HSR
        go_wp2_with fail
        refine (hasid10_of a la ca sa id false _ (unhide HA12) hla (unhide HIA)).mono ?_
        rintro e w' ⟨rfl, hw⟩
        obtain rfl := hw.symm
        clear hw
        go_wp2_with fail
        refine (hasid10_of b lb cb sb id true _ (unhide HB12) hlb (unhide HI)).mono ?_
        rintro e w' ⟨rfl, hw⟩
        obtain rfl := hw.symm
        clear hw
        go_wp2_with fail
        refine (iselem11 rb b lb cb sb _ (unhide HB12) hlb (unhide HM)).mono ?_
        rintro e w12 ⟨rfl, hb12⟩
        have z0 := (hb12.cell (p := ⟨w10.heap.size, 0, none⟩) (by simp; omega)).trans ((World.cell?_alloc_past _ _ _ (by simp; omega)).trans ((World.cell?_alloc_past _ _ _ g3).trans y0))
        have z1 := (hb12.cell (p := ⟨w10.heap.size, 1, none⟩) (by simp; omega)).trans ((World.cell?_alloc_past _ _ _ (by simp; omega)).trans ((World.cell?_alloc_past _ _ _ g3).trans y1))
        have z2 := (hb12.cell (p := ⟨w10.heap.size, 2, none⟩) (by simp; omega)).trans ((World.cell?_alloc_past _ _ _ (by simp; omega)).trans ((World.cell?_alloc_past _ _ _ g3).trans y2))
        have u0 : w12.cell? ⟨w11.heap.size, 0, none⟩ = some (.int .i64 rb.id) := (hb12.cell (p := ⟨w11.heap.size, 0, none⟩) (by simp; omega)).trans ((World.cell?_alloc_past _ _ _ (by simp)).trans (World.cell?_alloc_at _ _ _ _ rfl))
        have u1 : w12.cell? ⟨w11.heap.size, 1, none⟩ = some (.string rb.a) := (hb12.cell (p := ⟨w11.heap.size, 1, none⟩) (by simp; omega)).trans ((World.cell?_alloc_past _ _ _ (by simp)).trans (World.cell?_alloc_at _ _ _ _ rfl))
        have u2 : w12.cell? ⟨w11.heap.size, 2, none⟩ = some (.string rb.b) := (hb12.cell (p := ⟨w11.heap.size, 2, none⟩) (by simp; omega)).trans ((World.cell?_alloc_past _ _ _ (by simp)).trans (World.cell?_alloc_at _ _ _ _ rfl))
        have HBW := hide ((unhide HBZ).trans (hb12.mono (unhide HBZ).size))
        clear hb12
        go_wp2_with fail
        go_ret
        exact ⟨rfl, unhide HBW⟩
      · rw [happ, hfb] at hfr; cases hfr
    · rcases unhide HSR with ⟨hfr, _⟩ | ⟨hfr, rfl, pr, rfl⟩
      · rw [happ, hfb] at hfr; cases hfr
      · have HI : Hid ((sb.find? (fun s => s.id == id)).isSome = false) := hide (by rw [hfb]; rfl)
        have e0 : zeroSt.id = 0 := rfl
        have e1 : zeroSt.a = ⟨#[]⟩ := rfl
        have e2 : zeroSt.b = ⟨#[]⟩ := rfl
        rw [e0] at y0
        rw [e1] at y1
        rw [e2] at y2
        rw [e0, e1, e2] at HBZ HA12 HB12
        clear happ hfr hfa hfb HSA HSB HSR
        go_wp2_with fail
        refine (hasid10_of a la ca sa id false _ (unhide HA12) hla (unhide HIA)).mono ?_
        rintro e w' ⟨rfl, hw⟩
        obtain rfl := hw.symm
        clear hw
        go_wp2_with fail
        refine (hasid10_of b lb cb sb id false _ (unhide HB12) hlb (unhide HI)).mono ?_
        rintro e w' ⟨rfl, hw⟩
        obtain rfl := hw.symm
        clear hw
        go_wp2_with fail
        go_ret
        exact ⟨rfl, unhide HBZ⟩

end Go.Proofs.Qxb6630572aFmt
