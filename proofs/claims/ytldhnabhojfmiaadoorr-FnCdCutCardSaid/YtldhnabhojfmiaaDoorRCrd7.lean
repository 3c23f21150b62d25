/- The walk of cid.CidFromReader of version 1 where the digest makes the row grow. -/
import Derived.Test.YtldhnabhojfmiaaDoorRCrdG
namespace Go.Proofs.YtldhnabhojfmiaaDoorR
open Go.RowKit

set_option maxHeartbeats 8000000 in
set_option maxRecDepth 100000 in
/-- cid.CidFromReader of version 1, a long identifier. -/
theorem crd_g1 (g ga n c : Nat) (q : Int) (bs : List UInt8) (ve vu vo vn : Value) (w : World) (hg : RdrAt w g ga n c 0 q) (hr : RdB w (some ⟨ga, 0, none⟩) n c bs) (hag : ga < g) (hn : n ≤ 33554432) (hlt : 2 < g) (hlu : 1 < g) (he : ∀ w', Ex (· = g) w w' → RdErrs ve vu vo vn w') (hc : ∀ w', Ex (· = g) w w' → CdErrs w') (k : Nat) (hrd : uvRead bs = some (1, k)) (m codec : Nat) (h2 : uvRead (bs.drop k) = some (codec, m)) (s : Nat) (hs : s = k + m) (m2 code : Nat) (h3 : uvRead (bs.drop s) = some (code, m2)) (v : Nat) (hv : v = s + m2) (x m3 : Nat) (h4 : uvRead (bs.drop v) = some (x, m3)) (L : Nat) (hL : L = v + m3) (hLn : L ≤ n) (hL40 : L ≤ 40) (hx : x ≤ 33554432) (hf : 64 < L + x) (h0 : 0 < x) (hxn : L + x ≤ n) :
    Calls Tryd.prog 36 #[.iface 77 (.pointer (some ⟨g, 0, none⟩))] w fun e w' => CrdEnd g bs ve w e w' := by
  have hgw : g < w.heap.size := (Array.getElem?_eq_some_iff.1 hg).1
  obtain ⟨Te, ue, rfl⟩ := (he w (Ex.refl _ _)).eofE.iface
  obtain ⟨Tu, uu, rfl⟩ := (he w (Ex.refl _ _)).ueofE.iface
  obtain ⟨su, hsu⟩ := (hc w (Ex.refl _ _)).undef
  have HU0 := Kp.mk hsu
  have hmk := mk064
  have hlen := hr.len
  have HG := Kp.mk (And.intro hg hr)
  have HE := Kp.mk he
  have HC := Kp.mk hc
  have HX := Kp.mk (And.intro hag (And.intro hn (And.intro hlt (And.intro hlu hlen))))
  obtain ⟨dg, hN, hM⟩ : ∃ d, cdRead bs = some (1, codec, code, d, L + x) ∧ mhRead ((bs.take (L + x)).drop s) = some (code, d, L + x - s) := by subst hs hv hL; exact crd_some hrd h2 h3 h4 (by omega)
  have HN := Kp.mk hN
  have HM := Kp.mk hM
  clear hN hM
  have hsL : s ≤ L := by omega
  have hks : k ≤ s := by omega
  have hsv : s ≤ v := by omega
  have hvL : v ≤ L := by omega
  have HS := Kp.mk hs
  have HV := Kp.mk hv
  have HL := Kp.mk hL
  clear hs hv hL
  clear hg hr hsu he hc hag hn hlt hlu hlen
  go_enter Tryd.func36, Tryd.ntmps36
  go_wp2_with fail
  generalize hW1 : (w.alloc _).alloc _ = W1
  obtain ⟨hs1, hcr, hr2, hb2⟩ := crd_start g ga n c q bs w HG.out.1 HG.out.2 _ W1 hW1.symm
  have hr0 : W1.heap[w.heap.size]? = some (.cells #[.string ⟨#[]⟩] 56 (0, 0)) := by rw [← hW1]; exact blk_new (bel_alloc (Below.refl _ _) _)
  refine (toBuf_calls g _ W1).mono ?_
  rintro e w2 ⟨rfl, hw2⟩
  rw [hs1]
  rw [← hw2] at hcr hr2 hb2
  have hrr : w2.heap[w.heap.size]? = some (.cells #[.string ⟨#[]⟩] 56 (0, 0)) := by rw [hw2]; exact blk_keep hr0 (bel_alloc (Below.refl _ _) _)
  have hup : ∀ w', Ex (fun x => x = g ∨ x = w.heap.size + 1 + 1 ∨ x = w.heap.size + 1) w2 w' → Ex (· = g) w w' := fun w' h => Ex.new hb2 h (fun k hk hq => hq.elim id (fun hq => hq.elim (fun e => absurd hk (by omega)) (fun e => absurd hk (by omega))))
  have HUP := Kp.mk hup
  have HRR : Kp (∀ w', Ex (fun x => x = g ∨ x = w.heap.size + 1 + 1 ∨ x = w.heap.size + 1) w2 w' → w'.heap[w.heap.size]? = some (.cells #[.string ⟨#[]⟩] 56 (0, 0))) := ⟨fun w' h => h.keep hrr (fun h => h.elim (fun e => by omega) (fun h => h.elim (fun e => by omega) (fun e => by omega)))⟩
  have HUV := Kp.mk (fun (L : Nat) (hL : L ≤ 40) (w' : World) (h : CrAt g ga n c (w.heap.size + 1 + 1) (w.heap.size + 1) L bs w2 w') => crd_uv g ga n c _ _ L bs _ _ vo vn w2 w' h hr2 HX.out.1 (by omega) (by omega) (by have := HX.out.2.1; omega) HX.out.2.2.1 hL (fun w'' h => HE.out w'' (hup w'' h)))
  have HCR := Kp.mk hcr
  have HRB := Kp.mk hr2
  clear hcr hr2 hb2 hr0 hw2 hrr hup hW1 hs1 hmk HG
  go_wp2_with fail
  refine (HUV.out 0 (by omega) _ HCR.out).mono ?_
  rintro e w3 hu
  clear HCR
  unfold RuEnd at hu
  rw [List.drop_zero] at hu
  rw [hrd] at hu
  obtain ⟨rfl, hcr⟩ := hu
  rw [Nat.zero_add] at hcr
  have HCR := Kp.mk hcr
  have c2 : w3.cell? ⟨(w.heap.size + 1 + 1), 2, none⟩ = some (.slice (some ⟨(w.heap.size + 1), 0, none⟩) k 64) := blk_cell hcr.buf 2
  clear hcr
  go_wp2_with fail
  clear c2
  refine (HUV.out k (by omega) _ HCR.out).mono ?_
  rintro e w4 hu
  clear HCR
  unfold RuEnd at hu
  rw [h2] at hu
  obtain ⟨rfl, hcr⟩ := hu
  rw [← HS.out] at hcr
  have HCR := Kp.mk hcr
  have c2 : w4.cell? ⟨(w.heap.size + 1 + 1), 2, none⟩ = some (.slice (some ⟨(w.heap.size + 1), 0, none⟩) s 64) := blk_cell hcr.buf 2
  clear hcr
  go_wp2_with fail
  clear c2
  refine (HUV.out s (by omega) _ HCR.out).mono ?_
  rintro e w5 hu
  clear HCR
  unfold RuEnd at hu
  rw [h3] at hu
  obtain ⟨rfl, hcr⟩ := hu
  rw [← HV.out] at hcr
  have HCR := Kp.mk hcr
  have c2 : w5.cell? ⟨(w.heap.size + 1 + 1), 2, none⟩ = some (.slice (some ⟨(w.heap.size + 1), 0, none⟩) v 64) := blk_cell hcr.buf 2
  clear hcr
  go_wp2_with fail
  clear c2
  refine (HUV.out v (by omega) _ HCR.out).mono ?_
  rintro e w6 hu
  clear HCR
  unfold RuEnd at hu
  rw [h4] at hu
  obtain ⟨rfl, hcr⟩ := hu
  rw [← HL.out] at hcr
  have HCR := Kp.mk hcr
  have c2 : w6.cell? ⟨(w.heap.size + 1 + 1), 2, none⟩ = some (.slice (some ⟨(w.heap.size + 1), 0, none⟩) L 64) := blk_cell hcr.buf 2
  clear hcr
  have hex6 := HCR.out.ex
  have hr6 := HRB.out.ex hex6 (by have := HX.out.1; omega)
  have HRW6 := Kp.mk (HRR.out w6 hex6)
  obtain ⟨⟨q6, hg6⟩, hbuf, ⟨cs, hd, hcs, hpre⟩, _⟩ := HCR.out
  have hszb : (w.heap.size + 1 + 1) < w6.heap.size := (Array.getElem?_eq_some_iff.1 hbuf).1
  have HB6 := Kp.mk hbuf
  have HG6 := Kp.mk (And.intro hg6 hr6)
  have HD6 := Kp.mk hd
  have HP := Kp.mk (And.intro hcs hpre)
  have HEX6 : Kp (Ex (· = g) w w6) := ⟨HUP.out w6 hex6⟩
  have hxi : ((x : Int) > 33554432) = False := by simp; omega
  have hcap : ((L : Int) + (x : Int) > 64) = True := by simp; omega
  clear hbuf hg6 hd hr6 hcs hpre hex6 HUV HRR HRB HCR hrd h2 h3 h4
  obtain ⟨w7, hw7⟩ : ∃ W, W = w6.drew := ⟨_, rfl⟩
  have hb7 : Below w6.heap.size w6 w7 := by rw [hw7]; exact bel_drew (Below.refl _ _)
  have hs7 : w7.heap.size = w6.heap.size := by rw [hw7]; rfl
  obtain ⟨row, cap, hap, hcL, hc63, hrow, hrc⟩ := grow_append w7 (w.heap.size + 1) L x cs (blk_keep HD6.out hb7) HP.out.1 hL40 hx hf
  rw [hs7] at hap
  have hbW : Below w6.heap.size w6 (w7.drew.alloc (.cells row 5)) := bel_alloc (bel_drew hb7) _
  have hnW : (w7.drew.alloc (.cells row 5)).heap[w6.heap.size]? = some (.cells row 5 (0, 0)) := by rw [← hs7]; exact blk_new (w := w7.drew) (Below.refl _ _)
  obtain ⟨W1, hW1⟩ : ∃ W, W = w7.drew.alloc (.cells row 5) := ⟨_, rfl⟩
  rw [← hW1] at hap hbW hnW
  clear hW1
  obtain ⟨W2, hW2⟩ : ∃ W, W = W1.setCell ⟨(w.heap.size + 1 + 1), 2, none⟩ (.slice (some ⟨w6.heap.size, 0, none⟩) (L + x) cap) := ⟨_, rfl⟩
  have hV1 : Kp (W1.heap[(w.heap.size + 1 + 1)]? = some (.cells (bufCs g (w.heap.size + 1) L) 131 (0, 0))) := ⟨blk_keep HB6.out hbW⟩
  have HB7 : Kp (w7.heap[(w.heap.size + 1 + 1)]? = some (.cells (bufCs g (w.heap.size + 1) L) 131 (0, 0))) := ⟨blk_keep HB6.out hb7⟩
  have H7 := Kp.mk hw7
  have HW2 := Kp.mk hW2
  have HBW := Kp.mk hbW
  have HNW := Kp.mk hnW
  have HAP := Kp.mk hap
  have HROW := Kp.mk (And.intro hrow hrc)
  clear hap hrow hrc hw7 hW2 hbW hnW hb7 hs7
  go_wp2_with fail
  refine wp_region_growS (by kernel_rfl) 16 (by kernel_rfl) (crV (w.heap.size + 1 + 1) (w.heap.size + 1) L x w6.heap.size cap) (crSt w7 W1 W2) H7.out.symm (apart_of (by kernel_rfl)) (by kernel_rfl) ?_ ?_
  · intro i hi ob ho f vs hfi hn hpre hw
    rcases i with _ | _ | _ | _ | _ | _ | _ | _ | _ | _ | _ | _ | _ | _ | _ | _ | i
    · clear hn hpre hw
      obtain rfl := Option.some.inj ho
      simp only [canon, List.range, List.range.loop, List.foldl]
      go_simp
      exact ⟨rfl, crSt_upd (i := 0) (by decide) (by decide)⟩
    · clear hn hpre hw
      obtain rfl := Option.some.inj ho
      simp only [canon, List.range, List.range.loop, List.foldl]
      go_simp
      exact ⟨rfl, crSt_upd (i := 1) (by decide) (by decide)⟩
    · have e1 : vs 1 = _ := hpre 1 (by decide) (by obtain rfl := Option.some.inj ho; rfl)
      simp only [crV] at e1
      clear hn hpre hw
      obtain rfl := Option.some.inj ho
      simp only [canon, List.range, List.range.loop, List.foldl]
      go_simp
      exact ⟨rfl, crSt_upd (i := 2) (by decide) (by decide)⟩
    · have e2 : vs 2 = _ := hpre 2 (by decide) (by obtain rfl := Option.some.inj ho; rfl)
      simp only [crV] at e2
      clear hn hpre hw
      obtain rfl := Option.some.inj ho
      simp only [canon, List.range, List.range.loop, List.foldl]
      go_simp
      exact ⟨rfl, crSt_upd (i := 3) (by decide) (by decide)⟩
    · have e3 : vs 3 = _ := hpre 3 (by decide) (by obtain rfl := Option.some.inj ho; rfl)
      simp only [crV] at e3
      have h15 : f 15 = false := hn 15 _ rfl (by kernel_rfl)
      have h12 : f 12 = false := hn 12 _ rfl (by kernel_rfl)
      rw [crSt0 h12 h15]
      have c2 : w7.cell? ⟨(w.heap.size + 1 + 1), 2, none⟩ = some (.slice (some ⟨(w.heap.size + 1), 0, none⟩) L 64) := blk_cell HB7.out 2
      clear hn hpre hw
      obtain rfl := Option.some.inj ho
      simp only [canon, List.range, List.range.loop, List.foldl]
      go_simp
      exact ⟨rfl, (crSt0 h12 h15).symm.trans (crSt_upd (i := 4) (by decide) (by decide))⟩
    · clear hn hpre hw
      obtain rfl := Option.some.inj ho
      simp only [canon, List.range, List.range.loop, List.foldl]
      go_simp
      exact ⟨rfl, crSt_upd (i := 5) (by decide) (by decide)⟩
    · clear hn hpre hw
      obtain rfl := Option.some.inj ho
      simp only [canon, List.range, List.range.loop, List.foldl]
      go_simp
      exact ⟨rfl, crSt_upd (i := 6) (by decide) (by decide)⟩
    · have e6 : vs 6 = _ := hpre 6 (by decide) (by obtain rfl := Option.some.inj ho; rfl)
      simp only [crV] at e6
      clear hn hpre hw
      obtain rfl := Option.some.inj ho
      simp only [canon, List.range, List.range.loop, List.foldl]
      go_simp
      exact ⟨rfl, crSt_upd (i := 7) (by decide) (by decide)⟩
    · have e7 : vs 7 = _ := hpre 7 (by decide) (by obtain rfl := Option.some.inj ho; rfl)
      simp only [crV] at e7
      clear hn hpre hw
      obtain rfl := Option.some.inj ho
      simp only [canon, List.range, List.range.loop, List.foldl]
      go_simp
      exact ⟨rfl, crSt_upd (i := 8) (by decide) (by decide)⟩
    · have e8 : vs 8 = _ := hpre 8 (by decide) (by obtain rfl := Option.some.inj ho; rfl)
      simp only [crV] at e8
      have h15 : f 15 = false := hn 15 _ rfl (by kernel_rfl)
      have h12 : f 12 = false := hn 12 _ rfl (by kernel_rfl)
      rw [crSt0 h12 h15]
      have c2 : w7.cell? ⟨(w.heap.size + 1 + 1), 2, none⟩ = some (.slice (some ⟨(w.heap.size + 1), 0, none⟩) L 64) := blk_cell HB7.out 2
      clear hn hpre hw
      obtain rfl := Option.some.inj ho
      simp only [canon, List.range, List.range.loop, List.foldl]
      go_simp
      exact ⟨rfl, (crSt0 h12 h15).symm.trans (crSt_upd (i := 9) (by decide) (by decide))⟩
    · have e9 : vs 9 = _ := hpre 9 (by decide) (by obtain rfl := Option.some.inj ho; rfl)
      simp only [crV] at e9
      clear hn hpre hw
      obtain rfl := Option.some.inj ho
      simp only [canon, List.range, List.range.loop, List.foldl]
      go_simp
      exact ⟨rfl, crSt_upd (i := 10) (by decide) (by decide)⟩
    · have e5 : vs 5 = _ := hpre 5 (by decide) (by obtain rfl := Option.some.inj ho; rfl)
      have e10 : vs 10 = _ := hpre 10 (by decide) (by obtain rfl := Option.some.inj ho; rfl)
      simp only [crV] at e5 e10
      clear hn hpre hw
      obtain rfl := Option.some.inj ho
      simp only [canon, List.range, List.range.loop, List.foldl]
      go_simp
      exact ⟨by simp only [crV]; congr 1; rw [IntKind.wrap_i64]; omega, crSt_upd (i := 11) (by decide) (by decide)⟩
    · have e4 : vs 4 = _ := hpre 4 (by decide) (by obtain rfl := Option.some.inj ho; rfl)
      have e11 : vs 11 = _ := hpre 11 (by decide) (by obtain rfl := Option.some.inj ho; rfl)
      simp only [crV] at e4 e11
      have h15 : f 15 = false := hn 15 _ rfl (by kernel_rfl)
      have h12 : f 12 = false := hfi
      rw [crSt0 h12 h15]
      clear hn hpre hw
      have hap := HAP.out
      obtain rfl := Option.some.inj ho
      refine Lib.wp_append_run _ _ _ _ _ rfl (.slice (some ⟨(w.heap.size + 1), 0, none⟩) L 64) (.int .i64 (x : Int)) ?_ ?_ _ _ hap ⟨_, rfl, rfl, by simp [crSt, h15]⟩
      · clear hap
        simp only [canon, List.range, List.range.loop, List.foldl]
        go_simp
      · clear hap
        simp only [canon, List.range, List.range.loop, List.foldl]
        go_simp
    · have e0 : vs 0 = _ := hpre 0 (by decide) (by obtain rfl := Option.some.inj ho; rfl)
      simp only [crV] at e0
      clear hn hpre hw
      obtain rfl := Option.some.inj ho
      simp only [canon, List.range, List.range.loop, List.foldl]
      go_simp
      exact ⟨rfl, crSt_upd (i := 13) (by decide) (by decide)⟩
    · have e13 : vs 13 = _ := hpre 13 (by decide) (by obtain rfl := Option.some.inj ho; rfl)
      simp only [crV] at e13
      clear hn hpre hw
      obtain rfl := Option.some.inj ho
      simp only [canon, List.range, List.range.loop, List.foldl]
      go_simp
      exact ⟨rfl, crSt_upd (i := 14) (by decide) (by decide)⟩
    · have e14 : vs 14 = _ := hpre 14 (by decide) (by obtain rfl := Option.some.inj ho; rfl)
      have e12 : vs 12 = _ := hpre 12 (by decide) (by obtain rfl := Option.some.inj ho; rfl)
      simp only [crV] at e14 e12
      have h12 : f 12 = true := hw 12 (by obtain rfl := Option.some.inj ho; kernel_rfl)
      rw [crSt1 h12 hfi]
      have c3 := blk_cell hV1.out 2
      have f3 := blk_frozen hV1.out 2
      simp only [bufCs] at c3
      clear hn hpre hw
      obtain rfl := Option.some.inj ho
      simp only [canon, List.range, List.range.loop, List.foldl]
      go_simp
      exact HW2.out.symm
    · omega
  · intro vs hvs
    change wpAny _ _ _ _ _ _ _ W2
    have hbel := HBW.out
    have hW7 := HW2.out.symm
    obtain ⟨W7, e7⟩ : ∃ W, W2 = W := ⟨_, rfl⟩
    rw [e7] at hW7 ⊢
    clear e7
    have HBUF : Kp (W7.heap[(w.heap.size + 1 + 1)]? = some (.cells (bufC4 g w6.heap.size (L + x) cap) 131 (0, 0))) := ⟨by rw [← hW7]; exact blk_set hV1.out 2 _⟩
    have hd7 : W7.heap[w6.heap.size]? = some (.cells row 5 (0, 0)) := by rw [← hW7]; exact blk_far (p := ⟨(w.heap.size + 1 + 1), 2, none⟩) HNW.out (by show w6.heap.size ≠ (w.heap.size + 1 + 1); omega) _
    have HRW : Kp (W7.heap[w.heap.size]? = some (.cells #[.string ⟨#[]⟩] 56 (0, 0))) := ⟨by rw [← hW7]; exact blk_far (p := ⟨(w.heap.size + 1 + 1), 2, none⟩) (blk_keep HRW6.out hbel) (by show w.heap.size ≠ (w.heap.size + 1 + 1); omega) _⟩
    have hEX67 : Ex (fun k => k = (w.heap.size + 1 + 1)) w6 W7 := by rw [← hW7]; exact Ex.setCell (P := fun k => k = (w.heap.size + 1 + 1)) (p := ⟨(w.heap.size + 1 + 1), 2, none⟩) (Ex.of_below hbel) rfl _
    have HEX : Kp (Ex (· = g) w W7) := ⟨HEX6.out.ext hEX67 (fun j hj h => by omega)⟩
    have hg7 := hEX67.keep HG6.out.1 (by have := HX.out.1; omega)
    have hr7 := HG6.out.2.ex hEX67 (by have := HX.out.1; omega)
    have h67 := hEX67.size
    have hszb : (w.heap.size + 1 + 1) < W7.heap.size := (Array.getElem?_eq_some_iff.1 HBUF.out).1
    have hn6 : w6.heap.size < W7.heap.size := (Array.getElem?_eq_some_iff.1 hd7).1
    have hprow : ∀ j, j < L → row[j]? = (bs[j]?).map (fun x => Value.int .u8 (x.toNat : Int)) := fun j hj => (HROW.out.2 j hj).trans (HP.out.2 j hj)
    have HPR := Kp.mk (And.intro HROW.out.1 hprow)
    rw [canon_congr (us := crV (w.heap.size + 1 + 1) (w.heap.size + 1) L x w6.heap.size cap) hvs]
    clear hvs hW7 hbel hEX67 HB6 HD6 HG6 HRW6 HEX6 hV1 HAP HROW HP hprow HB7 HBW HNW HW2 H7
    have c7 : W7.cell? ⟨(w.heap.size + 1 + 1), 2, none⟩ = some (.slice (some ⟨w6.heap.size, 0, none⟩) (L + x) cap) := blk_cell HBUF.out 2
    have hcutB : ∀ W : World, (Instr.slice 71 (.slice (some ⟨w6.heap.size, 0, none⟩) (L + x) (cap)) (some (.int .i64 (L : Int))) (some (.int .i64 ((L : Int) + (x : Int)))) none).run Tryd.prog W = .ok (.slice (some ⟨w6.heap.size, L, none⟩) x (cap - L)) W := fun W => by rw [← Int.natCast_add, slice_lh _ (L + x) (cap) L (L + x) (by omega) (by omega) W, Nat.add_sub_cancel_left]
    refine wpAny_none (by kernel_rfl) ?_ _
    simp only [canon, List.range, List.range.loop, List.foldl, crV]
    go_wp2_with fail
    have HF := Kp.mk (fullAllG_calls g ga (w6.heap.size) n c L x (cap - L) L q6 bs row W7 hg7 hr7 HX.out.1 (by omega) hd7 (by have := HPR.out.1; omega) (by omega) h0 hxn (by have := HX.out.2.1; omega))
    clear hd7 hg7 hr7
    refine HF.out.mono ?_
    rintro e w8 ⟨⟨rfl, _, hd8⟩, hx8⟩
    have hr8 : RdB w8 (some ⟨w6.heap.size, 0, none⟩) (L + x) (cap) (bs.take (L + x)) := by have hlen := HX.out.2.2.2.2; exact rd_pre (cap := cap) hd8 (by have := HPR.out.1; omega) (by omega) HPR.out.2 (by omega) (by omega)
    have hx8 : Ex (fun k => k = g ∨ k = w6.heap.size) W7 w8 := hx8
    clear HF hd8
    have HBUF := Kp.mk (hx8.keep HBUF.out (by omega))
    have HRW := Kp.mk (hx8.keep HRW.out (by omega))
    have HEX8 : Kp (Ex (· = g) w w8) := ⟨HEX.out.ext hx8 (fun j hj h => h.elim id (fun e => by omega))⟩
    have c8 : w8.cell? ⟨(w.heap.size + 1 + 1), 2, none⟩ = some (.slice (some ⟨w6.heap.size, 0, none⟩) (L + x) (cap)) := blk_cell HBUF.out 2
    have HR8 := Kp.mk hr8
    obtain ⟨A', hcut2, hpart⟩ := rd_cut 71 .i64 Tryd.underlying71 (some ⟨w6.heap.size, 0, none⟩) (L + x) (cap) s (by omega)
    have hrp := hpart w8 _ hr8
    have hMF := mhFrom_calls A' (L + x - s) (cap - s) _ w8 hrp (HC.out w8 HEX8.out).mh (by omega)
    unfold MfEnd at hMF
    rw [HM.out] at hMF
    have HMF := Kp.mk hMF
    clear hMF hrp hpart hr8 hx8 HEX
    go_wp2_with fail
    refine HMF.out.mono ?_
    rintro e w9 ⟨⟨A2, c2', rfl, _⟩, hb9⟩
    have HBUF := Kp.mk (blk_keep HBUF.out hb9)
    have HRW := Kp.mk (blk_keep HRW.out hb9)
    have HR9 := Kp.mk (HR8.out.below hb9)
    have hszb : (w.heap.size + 1 + 1) < w9.heap.size := (Array.getElem?_eq_some_iff.1 HBUF.out).1
    have HEX : Kp (Ex (· = g) w w9) := ⟨HEX8.out.trans (Ex.of_below hb9)⟩
    have HUW : Kp (w9.cell? ⟨1, 0, none⟩ = some (.string su)) := ⟨HEX.out.cell HU0.out (Nat.ne_of_lt HX.out.2.2.2.1)⟩
    have hlu := HX.out.2.2.2.1
    have HCV : Kp (∀ w5, Ex (fun k => k = w.heap.size ∨ k = g) w9 w5 → (convert 71 9 (.slice (some ⟨w6.heap.size, 0, none⟩) (L + x) (cap))).run Tryd.prog w5 = .ok (.string (strB (bs.take (L + x)))) w5) := ⟨fun w5 h => rd_string (HR9.out.ex h (by omega)) 71 9 Tryd.underlying71 Tryd.underlying9⟩
    have c9 : w9.cell? ⟨(w.heap.size + 1 + 1), 2, none⟩ = some (.slice (some ⟨w6.heap.size, 0, none⟩) (L + x) (cap)) := blk_cell HBUF.out 2
    clear hb9 HMF HR8 HR9 HEX8 c8 hcut2
    go_wp2_with fail
    refine wp_region_growR (Two w.heap.size w.heap.size g (.cells #[.string ⟨#[]⟩] 56 (0, 0)) (.cells #[.string (strB (bs.take (L + x)))] 56 (0, 0)) (.cells #[.string (strB (bs.take (L + x)))] 56 (0, 0)) (.cells #[.string (strB (bs.take (L + x)))] 56 (0, 0))) (fun _ => Two.refl _ _ _ _ _ _ _ _) (fun _ _ _ h k => h.trans k) (by kernel_rfl) 14 (by decide) (apart_of (by kernel_rfl)) (by kernel_rfl) (crS14 (w.heap.size + 1 + 1) w6.heap.size (L + x) (cap) w.heap.size (strB (bs.take (L + x)))) (fun _ _ _ _ => True) (fun _ _ _ _ h hb => by unfold crS14 at *; split at h <;> first | exact h | exact hb.2.2.1.1 h) ?_ ?_
    · intro j hj ob ho vs z5 hb5 hpre
      have hsz5 : w9.heap.size ≤ z5.heap.size := hb5.1.size
      have hszW : w.heap.size + 1 < w9.heap.size := by first | omega | exact Nat.lt_of_lt_of_le (by omega) HSZ.out
      have HX5 : Kp (Ex (fun k => k = w.heap.size ∨ k = g) w9 z5) := ⟨⟨hb5.1.os, hb5.1.tape, hb5.1.output, hb5.1.size, fun k hk hp => hb5.2.1 k hk (fun e => hp (.inl e)) (fun e => hp (.inr e))⟩⟩
      rcases j with _ | _ | _ | _ | _ | _ | _ | _ | _ | _ | _ | _ | _ | _ | j
      · obtain rfl := Option.some.inj ho
        simp only [canon, List.range, List.range.loop, List.foldl]
        go_simp
        exact ⟨rfl, Two.refl _ _ _ _ _ _ _ _⟩
      · have e0 : vs 0 = _ := hpre 0 (by decide) (by obtain rfl := Option.some.inj ho; rfl)
        obtain rfl := Option.some.inj ho
        simp only [canon, List.range, List.range.loop, List.foldl]
        go_simp
        exact ⟨rfl, Two.refl _ _ _ _ _ _ _ _⟩
      · have e1 : vs 1 = _ := hpre 1 (by decide) (by obtain rfl := Option.some.inj ho; rfl)
        obtain rfl := Option.some.inj ho
        simp only [canon, List.range, List.range.loop, List.foldl]
        go_simp
        exact ⟨rfl, Two.refl _ _ _ _ _ _ _ _⟩
      · have e2 : vs 2 = _ := hpre 2 (by decide) (by obtain rfl := Option.some.inj ho; rfl)
        have c2 := blk_cell (hb5.keep HBUF.out (by omega) (by omega)) 2
        simp only [bufC4] at c2
        obtain rfl := Option.some.inj ho
        simp only [canon, List.range, List.range.loop, List.foldl]
        go_simp
        exact ⟨rfl, Two.refl _ _ _ _ _ _ _ _⟩
      · have e3 : vs 3 = _ := hpre 3 (by decide) (by obtain rfl := Option.some.inj ho; rfl)
        obtain rfl := Option.some.inj ho
        simp only [canon, List.range, List.range.loop, List.foldl]
        go_simp
        exact ⟨rfl, Two.refl _ _ _ _ _ _ _ _⟩
      · obtain rfl := Option.some.inj ho
        simp only [canon, List.range, List.range.loop, List.foldl]
        go_simp
        exact ⟨rfl, Two.refl _ _ _ _ _ _ _ _⟩
      · have e5 : vs 5 = _ := hpre 5 (by decide) (by obtain rfl := Option.some.inj ho; rfl)
        obtain rfl := Option.some.inj ho
        simp only [canon, List.range, List.range.loop, List.foldl]
        go_simp
        exact ⟨rfl, Two.refl _ _ _ _ _ _ _ _⟩
      · have e6 : vs 6 = _ := hpre 6 (by decide) (by obtain rfl := Option.some.inj ho; rfl)
        obtain rfl := Option.some.inj ho
        simp only [canon, List.range, List.range.loop, List.foldl]
        go_simp
        exact ⟨rfl, Two.refl _ _ _ _ _ _ _ _⟩
      · have e7 : vs 7 = _ := hpre 7 (by decide) (by obtain rfl := Option.some.inj ho; rfl)
        have c2 := blk_cell (hb5.keep HBUF.out (by omega) (by omega)) 2
        simp only [bufC4] at c2
        obtain rfl := Option.some.inj ho
        simp only [canon, List.range, List.range.loop, List.foldl]
        go_simp
        exact ⟨rfl, Two.refl _ _ _ _ _ _ _ _⟩
      · have e8 : vs 8 = _ := hpre 8 (by decide) (by obtain rfl := Option.some.inj ho; rfl)
        have hcv := HCV.out z5 HX5.out
        obtain rfl := Option.some.inj ho
        simp only [canon, List.range, List.range.loop, List.foldl]
        go_simp
        exact ⟨rfl, Two.refl _ _ _ _ _ _ _ _⟩
      · have e9 : vs 9 = _ := hpre 9 (by decide) (by obtain rfl := Option.some.inj ho; rfl)
        obtain rfl := Option.some.inj ho
        simp only [canon, List.range, List.range.loop, List.foldl]
        go_simp
        exact ⟨rfl, Two.refl _ _ _ _ _ _ _ _⟩
      · have e4 : vs 4 = _ := hpre 4 (by decide) (by obtain rfl := Option.some.inj ho; rfl)
        obtain rfl := Option.some.inj ho
        simp only [canon, List.range, List.range.loop, List.foldl]
        go_simp
        exact ⟨rfl, Two.refl _ _ _ _ _ _ _ _⟩
      · have e10 : vs 10 = _ := hpre 10 (by decide) (by obtain rfl := Option.some.inj ho; rfl)
        have hst := two_fst (B := w.heap.size) (r := w.heap.size) (s := g) (a := #[.string ⟨#[]⟩]) (c := #[.string (strB (bs.take (L + x)))]) (w := z5) (D := (.cells #[.string (strB (bs.take (L + x)))] 56 (0, 0))) (E := (.cells #[.string (strB (bs.take (L + x)))] 56 (0, 0))) [.string (strB (bs.take (L + x)))] (hb5.2.2.1.2 HRW.out) rfl rfl (by omega) (by omega)
        obtain ⟨⟨x0, c0⟩, f0⟩ := two_cell (hb5.2.2.1.2 HRW.out) 0 (Nat.le_of_ble_eq_true rfl) (Nat.le_of_ble_eq_true rfl)
        simp only [putAll] at hst
        obtain rfl := Option.some.inj ho
        simp only [canon, List.range, List.range.loop, List.foldl]
        go_simp
        exact ⟨undef, hst.1⟩
      · obtain rfl := Option.some.inj ho
        simp only [canon, List.range, List.range.loop, List.foldl]
        go_simp
        exact ⟨rfl, Two.refl _ _ _ _ _ _ _ _⟩
      · omega
    · intro vs z5 hb5 hr5 _
      have hV := hr5 12 (by omega)
      have es2 : vs 11 = _ := hr5 11 (by omega)
      have es4 : vs 13 = _ := hr5 13 (by omega)
      have HX5 : Kp (Ex (fun k => k = w.heap.size ∨ k = g) w9 z5) := ⟨⟨hb5.1.os, hb5.1.tape, hb5.1.output, hb5.1.size, fun k hk hp => hb5.2.1 k hk (fun e => hp (.inl e)) (fun e => hp (.inr e))⟩⟩
      clear hb5 hr5
      refine wpAny_none (by kernel_rfl) ?_ _
      generalize hA : canon _ _ vs 14 = FR
      have h2 : FR.tmps[2]? = some (vs 11) := by rw [← hA, canon_get (i := 11) rfl (Nat.le_of_ble_eq_true rfl) 14 (by omega) (apart_of (by kernel_rfl))]
      have h3 : FR.tmps[3]? = some (.pointer (some ⟨w.heap.size, 0, none⟩)) := by rw [← hA, canon_keep _ (by kernel_rfl)]; rfl
      have h4 : FR.tmps[4]? = some (vs 13) := by rw [← hA, canon_get (i := 13) rfl (Nat.le_of_ble_eq_true rfl) 14 (by omega) (apart_of (by kernel_rfl))]
      have hD : FR.defers = [] := by rw [← hA, canon_defers]
      rw [es2] at h2
      rw [es4] at h4
      clear hA es2 es4
      go_wp2
      refine bodyPost_ret (res_cell_mid rfl _ _ w.heap.size 56 #[.string (strB (bs.take (L + x)))] _ (by rw [Array.getD_eq_getD_getElem?, h3]; rfl) hV Tryd.underlying56 rfl (by kernel_rfl)) hD ?_
      rw [Array.getD_eq_getD_getElem?, Array.getD_eq_getD_getElem?, h2, h4]
      have hE5 : Ex (· = g) w z5 := HEX.out.ext HX5.out (fun j hj h => h.elim (fun e => by omega) id)
      exact crdEnd_some HN.out hE5 (by omega) rfl

end Go.Proofs.YtldhnabhojfmiaaDoorR
