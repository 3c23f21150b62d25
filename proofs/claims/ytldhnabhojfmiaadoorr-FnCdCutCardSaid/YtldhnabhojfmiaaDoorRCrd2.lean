/- The walk of cid.CidFromReader of version 0. -/
import Derived.Test.YtldhnabhojfmiaaDoorRCrdA
namespace Go.Proofs.YtldhnabhojfmiaaDoorR
open Go.RowKit

theorem crd_n18 {bs : List UInt8} (h : uvRead bs = some (18, 1)) (hz : ¬ (cdZero bs ∧ 34 ≤ bs.length)) : cdRead bs = none := by
  unfold cdRead
  by_cases h0 : cdZero bs
  · rw [if_pos h0, if_pos (by by_cases hl : bs.length < 34; exact hl; exact absurd ⟨h0, by omega⟩ hz)]
  · rw [if_neg h0, h]; rfl
theorem mh_18 {bs : List UInt8} (h : uvRead bs = some (18, 1)) (hz : ¬ cdZero bs) (hl : 34 ≤ bs.length) : ∀ code d, mhRead (bs.take 34) ≠ some (code, d, 34) := by
  intro code d hm
  obtain ⟨e1, e2, e3, e4⟩ := mhRead_inv hm
  have hlt : (bs.take 34).length = 34 := by rw [List.length_take]; omega
  rw [List.drop_of_length_le (by omega), List.append_nil] at e1
  obtain ⟨f1, f2, _⟩ := uvRead_inv h
  have h18 : Lib.uvarint 18 = [18] := by rw [Lib.uvarint_small (by omega)]; rfl
  rw [h18] at f1
  have hbs : bs.take 34 = 18 :: (bs.drop 1).take 33 := by
    conv => lhs; rw [f1]
    rfl
  rw [hbs, mhBytes, List.append_assoc] at e1
  have hcode := uvRead_uvarint (Lib.uvarint d.length ++ d) (uvarint_lt63 e3)
  have h2 : uvRead (18 :: (bs.drop 1).take 33) = some (18, 1) := by
    have := uvRead_uvarint (x := 18) ((bs.drop 1).take 33) (by rw [h18]; decide)
    rw [h18] at this
    exact this
  rw [← e1, h2] at hcode
  simp only [Option.some.injEq, Prod.mk.injEq] at hcode
  obtain ⟨rfl, _⟩ := hcode
  rw [mhBytes, h18, List.length_append, List.length_append] at e2
  simp only [List.length_cons, List.length_nil] at e2
  rw [h18] at e1
  simp only [List.cons_append, List.nil_append, List.cons.injEq, true_and] at e1
  have hds : d.length < 128 := by omega
  rw [Lib.uvarint_small hds] at e2 e1
  simp only [List.length_cons, List.length_nil] at e2
  have hd32 : d.length = 32 := by omega
  rw [hd32] at e1
  apply hz
  refine ⟨by omega, by rw [f1]; rfl, ?_⟩
  have h1 : ((bs.drop 1).take 33)[0]? = some 32 := by rw [e1]; rfl
  rw [List.getElem?_take, if_pos (by omega), List.getElem?_drop] at h1
  exact h1

set_option maxHeartbeats 8000000 in
set_option maxRecDepth 100000 in
/-- cid.CidFromReader of version 0. -/
theorem crd_v0 (g ga n c : Nat) (q : Int) (bs : List UInt8) (ve vu vo vn : Value) (w : World) (hg : RdrAt w g ga n c 0 q) (hr : RdB w (some ⟨ga, 0, none⟩) n c bs) (hag : ga < g) (hn : n ≤ 33554432) (hlt : 2 < g) (hlu : 1 < g) (he : ∀ w', Ex (· = g) w w' → RdErrs ve vu vo vn w') (hc : ∀ w', Ex (· = g) w w' → CdErrs w') (hrd : uvRead bs = some (18, 1)) (h34 : 34 ≤ n) :
    Calls Tryd.prog 36 #[.iface 77 (.pointer (some ⟨g, 0, none⟩))] w fun e w' => CrdEnd g bs ve w e w' := by
  have hgw : g < w.heap.size := (Array.getElem?_eq_some_iff.1 hg).1
  obtain ⟨Te, ue, rfl⟩ := (he w (Ex.refl _ _)).eofE.iface
  obtain ⟨Tu, uu, rfl⟩ := (he w (Ex.refl _ _)).ueofE.iface
  obtain ⟨su, hsu⟩ := (hc w (Ex.refl _ _)).undef
  have HU0 := Kp.mk hsu
  have hmk := mk064
  have hlen := hr.len
  have HG := Kp.mk (And.intro hg hr)
  have HE := Kp.mk he
  have HC := Kp.mk hc
  have HX := Kp.mk (And.intro hag (And.intro hn (And.intro hlt (And.intro hlu hlen))))
  have h34b : 34 ≤ bs.length := by omega
  clear hg hr hsu he hc hag hn hlt hlu hlen
  go_enter Tryd.func36, Tryd.ntmps36
  go_wp2_with fail
  generalize hW1 : (w.alloc _).alloc _ = W1
  obtain ⟨hs1, hcr, hr2, hb2⟩ := crd_start g ga n c q bs w HG.out.1 HG.out.2 _ W1 hW1.symm
  have hr0 : W1.heap[w.heap.size]? = some (.cells #[.string ⟨#[]⟩] 56 (0, 0)) := by rw [← hW1]; exact blk_new (bel_alloc (Below.refl _ _) _)
  refine (toBuf_calls g _ W1).mono ?_
  rintro e w2 ⟨rfl, hw2⟩
  rw [hs1]
  rw [← hw2] at hcr hr2 hb2
  have hrr : w2.heap[w.heap.size]? = some (.cells #[.string ⟨#[]⟩] 56 (0, 0)) := by rw [hw2]; exact blk_keep hr0 (bel_alloc (Below.refl _ _) _)
  have hup : ∀ w', Ex (fun x => x = g ∨ x = w.heap.size + 1 + 1 ∨ x = w.heap.size + 1) w2 w' → Ex (· = g) w w' := fun w' h => Ex.new hb2 h (fun k hk hq => hq.elim id (fun hq => hq.elim (fun e => absurd hk (by omega)) (fun e => absurd hk (by omega))))
  have HUP := Kp.mk hup
  have HRR : Kp (∀ w', Ex (fun x => x = g ∨ x = w.heap.size + 1 + 1 ∨ x = w.heap.size + 1) w2 w' → w'.heap[w.heap.size]? = some (.cells #[.string ⟨#[]⟩] 56 (0, 0))) := ⟨fun w' h => h.keep hrr (fun h => h.elim (fun e => by omega) (fun h => h.elim (fun e => by omega) (fun e => by omega)))⟩
  have HUV := Kp.mk (fun (L : Nat) (hL : L ≤ 40) (w' : World) (h : CrAt g ga n c (w.heap.size + 1 + 1) (w.heap.size + 1) L bs w2 w') => crd_uv g ga n c _ _ L bs _ _ vo vn w2 w' h hr2 HX.out.1 (by omega) (by omega) (by have := HX.out.2.1; omega) HX.out.2.2.1 hL (fun w'' h => HE.out w'' (hup w'' h)))
  have HCR := Kp.mk hcr
  have HRB := Kp.mk hr2
  clear hcr hr2 hb2 hr0 hw2 hrr hup hW1 hs1 hmk HG
  go_wp2_with fail
  refine (HUV.out 0 (by omega) _ HCR.out).mono ?_
  rintro e w3 hu
  clear HCR
  unfold RuEnd at hu
  rw [List.drop_zero] at hu
  rw [hrd] at hu
  obtain ⟨rfl, hcr⟩ := hu
  rw [Nat.zero_add] at hcr
  have hex3 := hcr.ex
  have HRW3 := Kp.mk (HRR.out w3 hex3)
  have hr3 := HRB.out.ex hex3 (by have := HX.out.1; omega)
  obtain ⟨⟨q3, hg3⟩, hbuf, ⟨cs, hd, hcs, hpre⟩, _⟩ := hcr
  have hcut : ∀ W : World, (Instr.slice 71 (.slice (some ⟨(w.heap.size + 1), 0, none⟩) 1 64) (some (.int .i64 1)) (some (.int .i64 34)) none).run Tryd.prog W = .ok (.slice (some ⟨(w.heap.size + 1), 1, none⟩) 33 63) W := fun W => slice_lh _ 1 64 1 34 (by omega) (by omega) W
  have c2 : w3.cell? ⟨(w.heap.size + 1 + 1), 2, none⟩ = some (.slice (some ⟨(w.heap.size + 1), 0, none⟩) 1 64) := blk_cell hbuf 2
  have hszb : (w.heap.size + 1 + 1) < w3.heap.size := (Array.getElem?_eq_some_iff.1 hbuf).1
  have HF := Kp.mk (fullAllG_calls g ga (w.heap.size + 1) n c 1 33 63 1 q3 bs cs w3 hg3 hr3 HX.out.1 (by omega) hd (by omega) (by omega) (by omega) (by omega) (by have := HX.out.2.1; omega))
  have HB3 := Kp.mk hbuf
  have HP := Kp.mk (And.intro hcs hpre)
  have HEX3 := Kp.mk hex3
  have HRD := Kp.mk hrd
  clear hbuf hg3 hr3 hd hcs hpre hex3 HUV HRR HRB hrd
  go_wp2_with fail
  refine HF.out.mono ?_
  rintro e w4 ⟨⟨rfl, _, hd4⟩, hx4⟩
  have hbuf4 := hx4.keep HB3.out (by omega)
  have HRW := Kp.mk (hx4.keep HRW3.out (by omega))
  have hszb4 : (w.heap.size + 1 + 1) < w4.heap.size := (Array.getElem?_eq_some_iff.1 hbuf4).1
  have HEX : Kp (Ex (· = g) w w4) := ⟨HUP.out w4 (HEX3.out.trans (hx4.mono (fun k h => h.elim .inl (fun h => .inr (.inr h)))))⟩
  have HUW : Kp (w4.cell? ⟨1, 0, none⟩ = some (.string su)) := ⟨HEX.out.cell HU0.out (Nat.ne_of_lt HX.out.2.2.2.1)⟩
  have hlu := HX.out.2.2.2.1
  have hcut2 : ∀ W : World, (Instr.slice 71 (.slice (some ⟨(w.heap.size + 1), 0, none⟩) 1 64) none (some (.int .i64 34)) none).run Tryd.prog W = .ok (.slice (some ⟨(w.heap.size + 1), 0, none⟩) 34 64) W := fun W => slice_h _ 1 64 34 (by omega) (by omega) W
  have d2 : w4.cell? ⟨(w.heap.size + 1 + 1), 2, none⟩ = some (.slice (some ⟨(w.heap.size + 1), 0, none⟩) 1 64) := blk_cell hbuf4 2
  have f2 := blk_frozen hbuf4 2
  have d2' : (w4.setCell ⟨(w.heap.size + 1 + 1), 2, none⟩ (.slice (some ⟨(w.heap.size + 1), 0, none⟩) 34 64)).cell? ⟨(w.heap.size + 1 + 1), 2, none⟩ = some (.slice (some ⟨(w.heap.size + 1), 0, none⟩) 34 64) := blk_cell (blk_set hbuf4 2 _) 2
  have HB4 := Kp.mk hbuf4
  have HD4 := Kp.mk hd4
  clear hbuf4 hd4 hx4 HF HRW3 HB3 hcut c2
  go_wp2_with fail
  generalize hW5 : w4.setCell _ _ = W5
  have HBUF : Kp (W5.heap[(w.heap.size + 1 + 1)]? = some (.cells (bufCs g (w.heap.size + 1) 34) 131 (0, 0))) := ⟨by rw [← hW5]; exact blk_set HB4.out 2 _⟩
  have hd5 : W5.heap[(w.heap.size + 1)]? = some (.cells (putLs cs 1 (Lib.byteCells ((bs.drop 1).take 33))) 5 (0, 0)) := by rw [← hW5]; exact blk_far (p := ⟨(w.heap.size + 1 + 1), 2, none⟩) HD4.out (by show (w.heap.size + 1) ≠ (w.heap.size + 1 + 1); omega) _
  have hr5 : RdB W5 (some ⟨(w.heap.size + 1), 0, none⟩) 34 64 (bs.take 34) := rd_pre (cap := 64) hd5 (by have := HP.out.1; omega) (by omega) HP.out.2 (by omega) (by omega)
  have HRW5 : Kp (W5.heap[w.heap.size]? = some (.cells #[.string ⟨#[]⟩] 56 (0, 0))) := ⟨by rw [← hW5]; exact blk_far (p := ⟨(w.heap.size + 1 + 1), 2, none⟩) HRW.out (by show w.heap.size ≠ (w.heap.size + 1 + 1); omega) _⟩
  have HEX5 : Kp (Ex (· = g) w W5) := ⟨by rw [← hW5]; exact HEX.out.ext (Ex.setCell (P := fun k => k = (w.heap.size + 1 + 1)) (p := ⟨(w.heap.size + 1 + 1), 2, none⟩) (Ex.refl _ _) rfl _) (fun j hj h => by omega)⟩
  have hszb5 : (w.heap.size + 1 + 1) < W5.heap.size := (Array.getElem?_eq_some_iff.1 HBUF.out).1
  clear hW5 hd5 HRW HEX HB4 HD4 hcut2 d2 f2 d2' HUW
  by_cases hz : cdZero bs
  · have HN := Kp.mk (cdRead_zero hz h34b)
    have hsh := cd0_shape hz h34b
    have hd32 : ((bs.drop 2).take 32).length = 32 := by rw [List.length_take, List.length_drop]; omega
    have HCA := Kp.mk (cast_calls (some ⟨(w.heap.size + 1), 0, none⟩) 34 64 (bs.take 34) 18 ((bs.drop 2).take 32) W5 hr5 (HC.out W5 HEX5.out).mh (by omega) (by rw [hsh]; exact cid0_mh hd32) (by rw [hsh]; simp [hd32]))
    have HR5 := Kp.mk hr5
    clear hz hsh hd32 hr5
    refine HCA.out.mono ?_
    rintro e w6 ⟨rfl, hb6⟩
    have HBUF := Kp.mk (blk_keep HBUF.out hb6)
    have HRW := Kp.mk (blk_keep HRW5.out hb6)
    have HR6 := Kp.mk (HR5.out.below hb6)
    have hszb6 : (w.heap.size + 1 + 1) < w6.heap.size := (Array.getElem?_eq_some_iff.1 HBUF.out).1
    have HEX : Kp (Ex (· = g) w w6) := ⟨HEX5.out.trans (Ex.of_below hb6)⟩
    have HUW : Kp (w6.cell? ⟨1, 0, none⟩ = some (.string su)) := ⟨HEX.out.cell HU0.out (Nat.ne_of_lt HX.out.2.2.2.1)⟩
    have hlu := HX.out.2.2.2.1
    have HCV : Kp (∀ w5, Ex (fun k => k = w.heap.size ∨ k = g) w6 w5 → (convert 72 9 (.slice (some ⟨(w.heap.size + 1), 0, none⟩) 34 64)).run Tryd.prog w5 = .ok (.string (strB (bs.take 34))) w5) := ⟨fun w5 h => rd_string (HR6.out.ex h (by omega)) 72 9 Tryd.underlying72 Tryd.underlying9⟩
    clear hb6 HCA HR5 HR6 HRW5 HEX5
    go_wp2_with fail
    refine wp_region_growR (Two w.heap.size w.heap.size g (.cells #[.string ⟨#[]⟩] 56 (0, 0)) (.cells #[.string (strB (bs.take 34))] 56 (0, 0)) (.cells #[.string (strB (bs.take 34))] 56 (0, 0)) (.cells #[.string (strB (bs.take 34))] 56 (0, 0))) (fun _ => Two.refl _ _ _ _ _ _ _ _) (fun _ _ _ h k => h.trans k) (by kernel_rfl) 11 (by decide) (apart_of (by kernel_rfl)) (by kernel_rfl) (crS11 (w.heap.size + 1 + 1) (w.heap.size + 1) (34) (64) w.heap.size (strB (bs.take 34))) (fun _ _ _ _ => True) (fun _ _ _ _ h hb => by unfold crS11 at *; split at h <;> first | exact h | exact hb.2.2.1.1 h) ?_ ?_
    · intro j hj ob ho vs z5 hb5 hpre
      have hsz5 : w6.heap.size ≤ z5.heap.size := hb5.1.size
      have hszW : w.heap.size + 1 < w6.heap.size := by first | omega | exact Nat.lt_of_lt_of_le (by omega) HSZ.out
      have HX5 : Kp (Ex (fun k => k = w.heap.size ∨ k = g) w6 z5) := ⟨⟨hb5.1.os, hb5.1.tape, hb5.1.output, hb5.1.size, fun k hk hp => hb5.2.1 k hk (fun e => hp (.inl e)) (fun e => hp (.inr e))⟩⟩
      rcases j with _ | _ | _ | _ | _ | _ | _ | _ | _ | _ | _ | j
      · obtain rfl := Option.some.inj ho
        simp only [canon, List.range, List.range.loop, List.foldl]
        go_simp
        exact ⟨rfl, Two.refl _ _ _ _ _ _ _ _⟩
      · have e0 : vs 0 = _ := hpre 0 (by decide) (by obtain rfl := Option.some.inj ho; rfl)
        obtain rfl := Option.some.inj ho
        simp only [canon, List.range, List.range.loop, List.foldl]
        go_simp
        exact ⟨rfl, Two.refl _ _ _ _ _ _ _ _⟩
      · have e1 : vs 1 = _ := hpre 1 (by decide) (by obtain rfl := Option.some.inj ho; rfl)
        obtain rfl := Option.some.inj ho
        simp only [canon, List.range, List.range.loop, List.foldl]
        go_simp
        exact ⟨rfl, Two.refl _ _ _ _ _ _ _ _⟩
      · have e2 : vs 2 = _ := hpre 2 (by decide) (by obtain rfl := Option.some.inj ho; rfl)
        have c2 := blk_cell (hb5.keep HBUF.out (by omega) (by omega)) 2
        simp only [bufCs] at c2
        obtain rfl := Option.some.inj ho
        simp only [canon, List.range, List.range.loop, List.foldl]
        go_simp
        exact ⟨rfl, Two.refl _ _ _ _ _ _ _ _⟩
      · have e3 : vs 3 = _ := hpre 3 (by decide) (by obtain rfl := Option.some.inj ho; rfl)
        obtain rfl := Option.some.inj ho
        simp only [canon, List.range, List.range.loop, List.foldl]
        go_simp
        exact ⟨rfl, Two.refl _ _ _ _ _ _ _ _⟩
      · obtain rfl := Option.some.inj ho
        simp only [canon, List.range, List.range.loop, List.foldl]
        go_simp
        exact ⟨rfl, Two.refl _ _ _ _ _ _ _ _⟩
      · have e5 : vs 5 = _ := hpre 5 (by decide) (by obtain rfl := Option.some.inj ho; rfl)
        have hcv := HCV.out z5 HX5.out
        obtain rfl := Option.some.inj ho
        simp only [canon, List.range, List.range.loop, List.foldl]
        go_simp
        exact ⟨rfl, Two.refl _ _ _ _ _ _ _ _⟩
      · have e6 : vs 6 = _ := hpre 6 (by decide) (by obtain rfl := Option.some.inj ho; rfl)
        obtain rfl := Option.some.inj ho
        simp only [canon, List.range, List.range.loop, List.foldl]
        go_simp
        exact ⟨rfl, Two.refl _ _ _ _ _ _ _ _⟩
      · have e4 : vs 4 = _ := hpre 4 (by decide) (by obtain rfl := Option.some.inj ho; rfl)
        obtain rfl := Option.some.inj ho
        simp only [canon, List.range, List.range.loop, List.foldl]
        go_simp
        exact ⟨rfl, Two.refl _ _ _ _ _ _ _ _⟩
      · have e7 : vs 7 = _ := hpre 7 (by decide) (by obtain rfl := Option.some.inj ho; rfl)
        have hst := two_fst (B := w.heap.size) (r := w.heap.size) (s := g) (a := #[.string ⟨#[]⟩]) (c := #[.string (strB (bs.take 34))]) (w := z5) (D := (.cells #[.string (strB (bs.take 34))] 56 (0, 0))) (E := (.cells #[.string (strB (bs.take 34))] 56 (0, 0))) [.string (strB (bs.take 34))] (hb5.2.2.1.2 HRW.out) rfl rfl (by omega) (by omega)
        obtain ⟨⟨x0, c0⟩, f0⟩ := two_cell (hb5.2.2.1.2 HRW.out) 0 (Nat.le_of_ble_eq_true rfl) (Nat.le_of_ble_eq_true rfl)
        simp only [putAll] at hst
        obtain rfl := Option.some.inj ho
        simp only [canon, List.range, List.range.loop, List.foldl]
        go_simp
        exact ⟨undef, hst.1⟩
      · obtain rfl := Option.some.inj ho
        simp only [canon, List.range, List.range.loop, List.foldl]
        go_simp
        exact ⟨rfl, Two.refl _ _ _ _ _ _ _ _⟩
      · omega
    · intro vs z5 hb5 hr5 _
      have hV := hr5 9 (by omega)
      have es2 : vs 8 = _ := hr5 8 (by omega)
      have es4 : vs 10 = _ := hr5 10 (by omega)
      have HX5 : Kp (Ex (fun k => k = w.heap.size ∨ k = g) w6 z5) := ⟨⟨hb5.1.os, hb5.1.tape, hb5.1.output, hb5.1.size, fun k hk hp => hb5.2.1 k hk (fun e => hp (.inl e)) (fun e => hp (.inr e))⟩⟩
      clear hb5 hr5
      refine wpAny_none (by kernel_rfl) ?_ _
      generalize hA : canon _ _ vs 11 = FR
      have h2 : FR.tmps[2]? = some (vs 8) := by rw [← hA, canon_get (i := 8) rfl (Nat.le_of_ble_eq_true rfl) 11 (by omega) (apart_of (by kernel_rfl))]
      have h3 : FR.tmps[3]? = some (.pointer (some ⟨w.heap.size, 0, none⟩)) := by rw [← hA, canon_keep _ (by kernel_rfl)]; rfl
      have h4 : FR.tmps[4]? = some (vs 10) := by rw [← hA, canon_get (i := 10) rfl (Nat.le_of_ble_eq_true rfl) 11 (by omega) (apart_of (by kernel_rfl))]
      have hD : FR.defers = [] := by rw [← hA, canon_defers]
      rw [es2] at h2
      rw [es4] at h4
      clear hA es2 es4
      go_wp2
      refine bodyPost_ret (res_cell_mid rfl _ _ w.heap.size 56 #[.string (strB (bs.take 34))] _ (by rw [Array.getD_eq_getD_getElem?, h3]; rfl) hV Tryd.underlying56 rfl (by kernel_rfl)) hD ?_
      rw [Array.getD_eq_getD_getElem?, Array.getD_eq_getD_getElem?, h2, h4]
      have hE5 : Ex (· = g) w z5 := HEX.out.ext HX5.out (fun j hj h => h.elim (fun e => by omega) id)
      exact crdEnd_some HN.out hE5 (by omega) rfl
  · have HN := Kp.mk (crd_n18 HRD.out (fun h => hz h.1))
    have HCA := Kp.mk (castBad_calls (some ⟨(w.heap.size + 1), 0, none⟩) 34 64 (bs.take 34) W5 hr5 (HC.out W5 HEX5.out).mh (by omega) (mh_18 HRD.out hz h34b) (by rw [List.length_take]; omega))
    clear hz hr5
    refine HCA.out.mono ?_
    rintro e w6 ⟨⟨a, T, u, rfl⟩, hb6⟩
    have HBUF := Kp.mk (blk_keep HBUF.out hb6)
    have HRW := Kp.mk (blk_keep HRW5.out hb6)
    have hszb6 : (w.heap.size + 1 + 1) < w6.heap.size := (Array.getElem?_eq_some_iff.1 HBUF.out).1
    have HEX : Kp (Ex (· = g) w w6) := ⟨HEX5.out.trans (Ex.of_below hb6)⟩
    have HUW : Kp (w6.cell? ⟨1, 0, none⟩ = some (.string su)) := ⟨HEX.out.cell HU0.out (Nat.ne_of_lt HX.out.2.2.2.1)⟩
    have hlu := HX.out.2.2.2.1
    clear hb6 HCA HRW5 HEX5
    go_wp2_with fail
    refine wp_region_growR (Two w.heap.size w.heap.size g (.cells #[.string ⟨#[]⟩] 56 (0, 0)) (.cells #[.string su] 56 (0, 0)) (.cells #[.string su] 56 (0, 0)) (.cells #[.string su] 56 (0, 0))) (fun _ => Two.refl _ _ _ _ _ _ _ _) (fun _ _ _ h k => h.trans k) (by kernel_rfl) 12 (by decide) (apart_of (by kernel_rfl)) (by kernel_rfl) (crE12 (w.heap.size + 1 + 1) (w.heap.size + 1) (34) w.heap.size su) (fun _ _ _ _ => True) (fun _ _ _ _ h hb => by unfold crE12 at *; split at h <;> first | exact h | exact hb.2.2.1.1 h) ?_ ?_
    · intro j hj ob ho vs z5 hb5 hpre
      have hsz5 : w6.heap.size ≤ z5.heap.size := hb5.1.size
      have hszW : w.heap.size + 1 < w6.heap.size := by first | omega | exact Nat.lt_of_lt_of_le (by omega) HSZ.out
      have HX5 : Kp (Ex (fun k => k = w.heap.size ∨ k = g) w6 z5) := ⟨⟨hb5.1.os, hb5.1.tape, hb5.1.output, hb5.1.size, fun k hk hp => hb5.2.1 k hk (fun e => hp (.inl e)) (fun e => hp (.inr e))⟩⟩
      rcases j with _ | _ | _ | _ | _ | _ | _ | _ | _ | _ | _ | _ | j
      · obtain rfl := Option.some.inj ho
        simp only [canon, List.range, List.range.loop, List.foldl]
        go_simp
        exact ⟨rfl, Two.refl _ _ _ _ _ _ _ _⟩
      · have e0 : vs 0 = _ := hpre 0 (by decide) (by obtain rfl := Option.some.inj ho; rfl)
        obtain rfl := Option.some.inj ho
        simp only [canon, List.range, List.range.loop, List.foldl]
        go_simp
        exact ⟨rfl, Two.refl _ _ _ _ _ _ _ _⟩
      · have e1 : vs 1 = _ := hpre 1 (by decide) (by obtain rfl := Option.some.inj ho; rfl)
        obtain rfl := Option.some.inj ho
        simp only [canon, List.range, List.range.loop, List.foldl]
        go_simp
        exact ⟨rfl, Two.refl _ _ _ _ _ _ _ _⟩
      · have e2 : vs 2 = _ := hpre 2 (by decide) (by obtain rfl := Option.some.inj ho; rfl)
        have c2 := blk_cell (hb5.keep HBUF.out (by omega) (by omega)) 2
        simp only [bufCs] at c2
        obtain rfl := Option.some.inj ho
        simp only [canon, List.range, List.range.loop, List.foldl]
        go_simp
        exact ⟨rfl, Two.refl _ _ _ _ _ _ _ _⟩
      · have e3 : vs 3 = _ := hpre 3 (by decide) (by obtain rfl := Option.some.inj ho; rfl)
        obtain rfl := Option.some.inj ho
        simp only [canon, List.range, List.range.loop, List.foldl]
        go_simp
        exact ⟨rfl, Two.refl _ _ _ _ _ _ _ _⟩
      · have c9 := HX5.out.cell HUW.out (fun h => h.elim (fun e => by simp only at e; omega) (fun e => by simp only at e; omega))
        obtain rfl := Option.some.inj ho
        simp only [canon, List.range, List.range.loop, List.foldl]
        go_simp
        exact ⟨rfl, Two.refl _ _ _ _ _ _ _ _⟩
      · obtain rfl := Option.some.inj ho
        simp only [canon, List.range, List.range.loop, List.foldl]
        go_simp
        exact ⟨⟨_, _, rfl⟩, Two.refl _ _ _ _ _ _ _ _⟩
      · obtain ⟨T6, u6, e6⟩ := hpre 6 (by decide) (by obtain rfl := Option.some.inj ho; rfl)
        obtain rfl := Option.some.inj ho
        simp only [canon, List.range, List.range.loop, List.foldl]
        go_simp
        exact ⟨⟨_, rfl⟩, Two.refl _ _ _ _ _ _ _ _⟩
      · obtain ⟨x7, e7⟩ := hpre 7 (by decide) (by obtain rfl := Option.some.inj ho; rfl)
        obtain rfl := Option.some.inj ho
        simp only [canon, List.range, List.range.loop, List.foldl]
        go_simp
        exact ⟨⟨_, rfl⟩, Two.refl _ _ _ _ _ _ _ _⟩
      · have e4 : vs 4 = _ := hpre 4 (by decide) (by obtain rfl := Option.some.inj ho; rfl)
        obtain rfl := Option.some.inj ho
        simp only [canon, List.range, List.range.loop, List.foldl]
        go_simp
        exact ⟨rfl, Two.refl _ _ _ _ _ _ _ _⟩
      · have e5 : vs 5 = _ := hpre 5 (by decide) (by obtain rfl := Option.some.inj ho; rfl)
        have hst := two_fst (B := w.heap.size) (r := w.heap.size) (s := g) (a := #[.string ⟨#[]⟩]) (c := #[.string su]) (w := z5) (D := (.cells #[.string su] 56 (0, 0))) (E := (.cells #[.string su] 56 (0, 0))) [.string su] (hb5.2.2.1.2 HRW.out) rfl rfl (by omega) (by omega)
        obtain ⟨⟨x0, c0⟩, f0⟩ := two_cell (hb5.2.2.1.2 HRW.out) 0 (Nat.le_of_ble_eq_true rfl) (Nat.le_of_ble_eq_true rfl)
        simp only [putAll] at hst
        obtain rfl := Option.some.inj ho
        simp only [canon, List.range, List.range.loop, List.foldl]
        go_simp
        exact ⟨undef, hst.1⟩
      · obtain ⟨x8, e8⟩ := hpre 8 (by decide) (by obtain rfl := Option.some.inj ho; rfl)
        obtain rfl := Option.some.inj ho
        simp only [canon, List.range, List.range.loop, List.foldl]
        go_simp
        exact ⟨⟨_, rfl⟩, Two.refl _ _ _ _ _ _ _ _⟩
      · omega
    · intro vs z5 hb5 hr5 _
      have hV := hr5 10 (by omega)
      have es2 : vs 9 = _ := hr5 9 (by omega)
      obtain ⟨x11, es4⟩ := hr5 11 (by omega)
      have HX5 : Kp (Ex (fun k => k = w.heap.size ∨ k = g) w6 z5) := ⟨⟨hb5.1.os, hb5.1.tape, hb5.1.output, hb5.1.size, fun k hk hp => hb5.2.1 k hk (fun e => hp (.inl e)) (fun e => hp (.inr e))⟩⟩
      clear hb5 hr5
      refine wpAny_none (by kernel_rfl) ?_ _
      generalize hA : canon _ _ vs 12 = FR
      have h2 : FR.tmps[2]? = some (vs 9) := by rw [← hA, canon_get (i := 9) rfl (Nat.le_of_ble_eq_true rfl) 12 (by omega) (apart_of (by kernel_rfl))]
      have h3 : FR.tmps[3]? = some (.pointer (some ⟨w.heap.size, 0, none⟩)) := by rw [← hA, canon_keep _ (by kernel_rfl)]; rfl
      have h4 : FR.tmps[4]? = some (vs 11) := by rw [← hA, canon_get (i := 11) rfl (Nat.le_of_ble_eq_true rfl) 12 (by omega) (apart_of (by kernel_rfl))]
      have hD : FR.defers = [] := by rw [← hA, canon_defers]
      rw [es2] at h2
      rw [es4] at h4
      clear hA es2 es4
      go_wp2
      refine bodyPost_ret (res_cell_mid rfl _ _ w.heap.size 56 #[.string su] _ (by rw [Array.getD_eq_getD_getElem?, h3]; rfl) hV Tryd.underlying56 rfl (by kernel_rfl)) hD ?_
      rw [Array.getD_eq_getD_getElem?, Array.getD_eq_getD_getElem?, h2, h4]
      have hE5 : Ex (· = g) w z5 := HEX.out.ext HX5.out (fun j hj h => h.elim (fun e => by omega) id)
      exact crdEnd_none HN.out hE5 (.inr rfl)

set_option maxHeartbeats 8000000 in
set_option maxRecDepth 100000 in
/-- cid.CidFromReader of what begins as version 0 but is too short. -/
theorem crd_v0s (g ga n c : Nat) (q : Int) (bs : List UInt8) (ve vu vo vn : Value) (w : World) (hg : RdrAt w g ga n c 0 q) (hr : RdB w (some ⟨ga, 0, none⟩) n c bs) (hag : ga < g) (hn : n ≤ 33554432) (hlt : 2 < g) (hlu : 1 < g) (he : ∀ w', Ex (· = g) w w' → RdErrs ve vu vo vn w') (hc : ∀ w', Ex (· = g) w w' → CdErrs w') (hrd : uvRead bs = some (18, 1)) (h34 : n < 34) :
    Calls Tryd.prog 36 #[.iface 77 (.pointer (some ⟨g, 0, none⟩))] w fun e w' => CrdEnd g bs ve w e w' := by
  have hgw : g < w.heap.size := (Array.getElem?_eq_some_iff.1 hg).1
  obtain ⟨Te, ue, rfl⟩ := (he w (Ex.refl _ _)).eofE.iface
  obtain ⟨Tu, uu, rfl⟩ := (he w (Ex.refl _ _)).ueofE.iface
  obtain ⟨su, hsu⟩ := (hc w (Ex.refl _ _)).undef
  have HU0 := Kp.mk hsu
  have hmk := mk064
  have hlen := hr.len
  have HG := Kp.mk (And.intro hg hr)
  have HE := Kp.mk he
  have HC := Kp.mk hc
  have HX := Kp.mk (And.intro hag (And.intro hn (And.intro hlt (And.intro hlu hlen))))
  have HN := Kp.mk (crd_n18 hrd (fun h => by omega))
  clear hg hr hsu he hc hag hn hlt hlu hlen
  go_enter Tryd.func36, Tryd.ntmps36
  go_wp2_with fail
  generalize hW1 : (w.alloc _).alloc _ = W1
  obtain ⟨hs1, hcr, hr2, hb2⟩ := crd_start g ga n c q bs w HG.out.1 HG.out.2 _ W1 hW1.symm
  have hr0 : W1.heap[w.heap.size]? = some (.cells #[.string ⟨#[]⟩] 56 (0, 0)) := by rw [← hW1]; exact blk_new (bel_alloc (Below.refl _ _) _)
  refine (toBuf_calls g _ W1).mono ?_
  rintro e w2 ⟨rfl, hw2⟩
  rw [hs1]
  rw [← hw2] at hcr hr2 hb2
  have hrr : w2.heap[w.heap.size]? = some (.cells #[.string ⟨#[]⟩] 56 (0, 0)) := by rw [hw2]; exact blk_keep hr0 (bel_alloc (Below.refl _ _) _)
  have hup : ∀ w', Ex (fun x => x = g ∨ x = w.heap.size + 1 + 1 ∨ x = w.heap.size + 1) w2 w' → Ex (· = g) w w' := fun w' h => Ex.new hb2 h (fun k hk hq => hq.elim id (fun hq => hq.elim (fun e => absurd hk (by omega)) (fun e => absurd hk (by omega))))
  have HUP := Kp.mk hup
  have HRR : Kp (∀ w', Ex (fun x => x = g ∨ x = w.heap.size + 1 + 1 ∨ x = w.heap.size + 1) w2 w' → w'.heap[w.heap.size]? = some (.cells #[.string ⟨#[]⟩] 56 (0, 0))) := ⟨fun w' h => h.keep hrr (fun h => h.elim (fun e => by omega) (fun h => h.elim (fun e => by omega) (fun e => by omega)))⟩
  have HUV := Kp.mk (fun (L : Nat) (hL : L ≤ 40) (w' : World) (h : CrAt g ga n c (w.heap.size + 1 + 1) (w.heap.size + 1) L bs w2 w') => crd_uv g ga n c _ _ L bs _ _ vo vn w2 w' h hr2 HX.out.1 (by omega) (by omega) (by have := HX.out.2.1; omega) HX.out.2.2.1 hL (fun w'' h => HE.out w'' (hup w'' h)))
  have HCR := Kp.mk hcr
  have HRB := Kp.mk hr2
  clear hcr hr2 hb2 hr0 hw2 hrr hup hW1 hs1 hmk HG
  go_wp2_with fail
  refine (HUV.out 0 (by omega) _ HCR.out).mono ?_
  rintro e w3 hu
  clear HCR
  unfold RuEnd at hu
  rw [List.drop_zero] at hu
  rw [hrd] at hu
  obtain ⟨rfl, hcr⟩ := hu
  rw [Nat.zero_add] at hcr
  have hex3 := hcr.ex
  have HRW3 := Kp.mk (HRR.out w3 hex3)
  have hr3 := HRB.out.ex hex3 (by have := HX.out.1; omega)
  obtain ⟨⟨q3, hg3⟩, hbuf, ⟨cs, hd, hcs, hpre⟩, _⟩ := hcr
  have hcut : ∀ W : World, (Instr.slice 71 (.slice (some ⟨(w.heap.size + 1), 0, none⟩) 1 64) (some (.int .i64 1)) (some (.int .i64 34)) none).run Tryd.prog W = .ok (.slice (some ⟨(w.heap.size + 1), 1, none⟩) 33 63) W := fun W => slice_lh _ 1 64 1 34 (by omega) (by omega) W
  have c2 : w3.cell? ⟨(w.heap.size + 1 + 1), 2, none⟩ = some (.slice (some ⟨(w.heap.size + 1), 0, none⟩) 1 64) := blk_cell hbuf 2
  have hszb : (w.heap.size + 1 + 1) < w3.heap.size := (Array.getElem?_eq_some_iff.1 hbuf).1
  have her : ∀ w', Ex (fun k => k = g ∨ k = (w.heap.size + 1)) w3 w' → RdErrs (.iface Te ue) (.iface Tu uu) vo vn w' := fun w' h => HE.out w' (HUP.out w' (hex3.trans (h.mono (fun k h => h.elim .inl (fun h => .inr (.inr h))))))
  by_cases h1 : n ≤ 1
  · have HF := Kp.mk (fullEnd_calls g ga (w.heap.size + 1) n c 1 33 63 1 q3 _ _ _ _ w3 hg3 (by omega) (by omega) h1 (by omega) her)
    have HB3 := Kp.mk hbuf
    have HEX3 := Kp.mk hex3
    clear hbuf hg3 hr3 hd hcs hpre hex3 HUV HRR HRB hrd her
    go_wp2_with fail
    refine HF.out.mono ?_
    rintro e w4 ⟨⟨rfl, _⟩, hx4⟩
    have hbuf4 := hx4.keep HB3.out (by omega)
    have HRW := Kp.mk (hx4.keep HRW3.out (by omega))
    have hszb4 : (w.heap.size + 1 + 1) < w4.heap.size := (Array.getElem?_eq_some_iff.1 hbuf4).1
    have HEX : Kp (Ex (· = g) w w4) := ⟨HUP.out w4 (HEX3.out.trans (hx4.mono (fun k h => h.elim .inl (fun h => .inr (.inr h)))))⟩
    have HUW : Kp (w4.cell? ⟨1, 0, none⟩ = some (.string su)) := ⟨HEX.out.cell HU0.out (Nat.ne_of_lt HX.out.2.2.2.1)⟩
    have hlu := HX.out.2.2.2.1
    have HBUF := Kp.mk hbuf4
    clear hbuf4 hx4 HF HRW3 HB3 hcut c2
    go_wp2_with fail
    refine wp_region_growR (Two w.heap.size w.heap.size g (.cells #[.string ⟨#[]⟩] 56 (0, 0)) (.cells #[.string su] 56 (0, 0)) (.cells #[.string su] 56 (0, 0)) (.cells #[.string su] 56 (0, 0))) (fun _ => Two.refl _ _ _ _ _ _ _ _) (fun _ _ _ h k => h.trans k) (by kernel_rfl) 14 (by decide) (apart_of (by kernel_rfl)) (by kernel_rfl) (crE14 (w.heap.size + 1 + 1) (w.heap.size + 1) (1) w.heap.size su 0) (fun _ _ _ _ => True) (fun _ _ _ _ h hb => by unfold crE14 at *; split at h <;> first | exact h | exact hb.2.2.1.1 h) ?_ ?_
    · intro j hj ob ho vs z5 hb5 hpre
      have hsz5 : w4.heap.size ≤ z5.heap.size := hb5.1.size
      have hszW : w.heap.size + 1 < w4.heap.size := by first | omega | exact Nat.lt_of_lt_of_le (by omega) HSZ.out
      have HX5 : Kp (Ex (fun k => k = w.heap.size ∨ k = g) w4 z5) := ⟨⟨hb5.1.os, hb5.1.tape, hb5.1.output, hb5.1.size, fun k hk hp => hb5.2.1 k hk (fun e => hp (.inl e)) (fun e => hp (.inr e))⟩⟩
      rcases j with _ | _ | _ | _ | _ | _ | _ | _ | _ | _ | _ | _ | _ | _ | j
      · obtain rfl := Option.some.inj ho
        simp only [canon, List.range, List.range.loop, List.foldl]
        go_simp
        exact ⟨rfl, Two.refl _ _ _ _ _ _ _ _⟩
      · have e0 : vs 0 = _ := hpre 0 (by decide) (by obtain rfl := Option.some.inj ho; rfl)
        obtain rfl := Option.some.inj ho
        simp only [canon, List.range, List.range.loop, List.foldl]
        go_simp
        exact ⟨rfl, Two.refl _ _ _ _ _ _ _ _⟩
      · have e1 : vs 1 = _ := hpre 1 (by decide) (by obtain rfl := Option.some.inj ho; rfl)
        obtain rfl := Option.some.inj ho
        simp only [canon, List.range, List.range.loop, List.foldl]
        go_simp
        exact ⟨rfl, Two.refl _ _ _ _ _ _ _ _⟩
      · have e2 : vs 2 = _ := hpre 2 (by decide) (by obtain rfl := Option.some.inj ho; rfl)
        have c2 := blk_cell (hb5.keep HBUF.out (by omega) (by omega)) 2
        simp only [bufCs] at c2
        obtain rfl := Option.some.inj ho
        simp only [canon, List.range, List.range.loop, List.foldl]
        go_simp
        exact ⟨rfl, Two.refl _ _ _ _ _ _ _ _⟩
      · have e3 : vs 3 = _ := hpre 3 (by decide) (by obtain rfl := Option.some.inj ho; rfl)
        obtain rfl := Option.some.inj ho
        simp only [canon, List.range, List.range.loop, List.foldl]
        go_simp
        exact ⟨rfl, Two.refl _ _ _ _ _ _ _ _⟩
      · obtain rfl := Option.some.inj ho
        simp only [canon, List.range, List.range.loop, List.foldl]
        go_simp
        exact ⟨rfl, Two.refl _ _ _ _ _ _ _ _⟩
      · have e4 : vs 4 = _ := hpre 4 (by decide) (by obtain rfl := Option.some.inj ho; rfl)
        have e5 : vs 5 = _ := hpre 5 (by decide) (by obtain rfl := Option.some.inj ho; rfl)
        obtain rfl := Option.some.inj ho
        simp only [canon, List.range, List.range.loop, List.foldl]
        go_simp
        exact ⟨⟨_, rfl⟩, Two.refl _ _ _ _ _ _ _ _⟩
      · have c9 := HX5.out.cell HUW.out (fun h => h.elim (fun e => by simp only at e; omega) (fun e => by simp only at e; omega))
        obtain rfl := Option.some.inj ho
        simp only [canon, List.range, List.range.loop, List.foldl]
        go_simp
        exact ⟨rfl, Two.refl _ _ _ _ _ _ _ _⟩
      · obtain rfl := Option.some.inj ho
        simp only [canon, List.range, List.range.loop, List.foldl]
        go_simp
        exact ⟨⟨_, _, rfl⟩, Two.refl _ _ _ _ _ _ _ _⟩
      · obtain ⟨T8, u8, e8⟩ := hpre 8 (by decide) (by obtain rfl := Option.some.inj ho; rfl)
        obtain rfl := Option.some.inj ho
        simp only [canon, List.range, List.range.loop, List.foldl]
        go_simp
        exact ⟨⟨_, rfl⟩, Two.refl _ _ _ _ _ _ _ _⟩
      · obtain ⟨x9, e9⟩ := hpre 9 (by decide) (by obtain rfl := Option.some.inj ho; rfl)
        obtain rfl := Option.some.inj ho
        simp only [canon, List.range, List.range.loop, List.foldl]
        go_simp
        exact ⟨⟨_, rfl⟩, Two.refl _ _ _ _ _ _ _ _⟩
      · obtain ⟨x6, e6⟩ := hpre 6 (by decide) (by obtain rfl := Option.some.inj ho; rfl)
        obtain rfl := Option.some.inj ho
        simp only [canon, List.range, List.range.loop, List.foldl]
        go_simp
        exact ⟨⟨_, rfl⟩, Two.refl _ _ _ _ _ _ _ _⟩
      · have e7 : vs 7 = _ := hpre 7 (by decide) (by obtain rfl := Option.some.inj ho; rfl)
        have hst := two_fst (B := w.heap.size) (r := w.heap.size) (s := g) (a := #[.string ⟨#[]⟩]) (c := #[.string su]) (w := z5) (D := (.cells #[.string su] 56 (0, 0))) (E := (.cells #[.string su] 56 (0, 0))) [.string su] (hb5.2.2.1.2 HRW.out) rfl rfl (by omega) (by omega)
        obtain ⟨⟨x0, c0⟩, f0⟩ := two_cell (hb5.2.2.1.2 HRW.out) 0 (Nat.le_of_ble_eq_true rfl) (Nat.le_of_ble_eq_true rfl)
        simp only [putAll] at hst
        obtain rfl := Option.some.inj ho
        simp only [canon, List.range, List.range.loop, List.foldl]
        go_simp
        exact ⟨undef, hst.1⟩
      · obtain ⟨x10, e10⟩ := hpre 10 (by decide) (by obtain rfl := Option.some.inj ho; rfl)
        obtain rfl := Option.some.inj ho
        simp only [canon, List.range, List.range.loop, List.foldl]
        go_simp
        exact ⟨⟨_, rfl⟩, Two.refl _ _ _ _ _ _ _ _⟩
      · omega
    · intro vs z5 hb5 hr5 _
      have hV := hr5 12 (by omega)
      obtain ⟨x11, es2⟩ := hr5 11 (by omega)
      obtain ⟨x13, es4⟩ := hr5 13 (by omega)
      have HX5 : Kp (Ex (fun k => k = w.heap.size ∨ k = g) w4 z5) := ⟨⟨hb5.1.os, hb5.1.tape, hb5.1.output, hb5.1.size, fun k hk hp => hb5.2.1 k hk (fun e => hp (.inl e)) (fun e => hp (.inr e))⟩⟩
      clear hb5 hr5
      refine wpAny_none (by kernel_rfl) ?_ _
      generalize hA : canon _ _ vs 14 = FR
      have h2 : FR.tmps[2]? = some (vs 11) := by rw [← hA, canon_get (i := 11) rfl (Nat.le_of_ble_eq_true rfl) 14 (by omega) (apart_of (by kernel_rfl))]
      have h3 : FR.tmps[3]? = some (.pointer (some ⟨w.heap.size, 0, none⟩)) := by rw [← hA, canon_keep _ (by kernel_rfl)]; rfl
      have h4 : FR.tmps[4]? = some (vs 13) := by rw [← hA, canon_get (i := 13) rfl (Nat.le_of_ble_eq_true rfl) 14 (by omega) (apart_of (by kernel_rfl))]
      have hD : FR.defers = [] := by rw [← hA, canon_defers]
      rw [es2] at h2
      rw [es4] at h4
      clear hA es2 es4
      go_wp2
      refine bodyPost_ret (res_cell_mid rfl _ _ w.heap.size 56 #[.string su] _ (by rw [Array.getD_eq_getD_getElem?, h3]; rfl) hV Tryd.underlying56 rfl (by kernel_rfl)) hD ?_
      rw [Array.getD_eq_getD_getElem?, Array.getD_eq_getD_getElem?, h2, h4]
      have hE5 : Ex (· = g) w z5 := HEX.out.ext HX5.out (fun j hj h => h.elim (fun e => by omega) id)
      exact crdEnd_none HN.out hE5 (.inr rfl)
  · have HF := Kp.mk (fullLess_calls g ga (w.heap.size + 1) n c 1 33 63 (n - 1) 1 q3 bs cs _ _ _ _ w3 hg3 hr3 HX.out.1 (by omega) hd (by omega) (by omega) (by omega) (by omega) (by omega) (by omega) (by have := HX.out.2.1; omega) her)
    have HB3 := Kp.mk hbuf
    have HEX3 := Kp.mk hex3
    clear hbuf hg3 hr3 hd hcs hpre hex3 HUV HRR HRB hrd her
    go_wp2_with fail
    refine HF.out.mono ?_
    rintro e w4 ⟨⟨rfl, _⟩, hx4⟩
    have hbuf4 := hx4.keep HB3.out (by omega)
    have HRW := Kp.mk (hx4.keep HRW3.out (by omega))
    have hszb4 : (w.heap.size + 1 + 1) < w4.heap.size := (Array.getElem?_eq_some_iff.1 hbuf4).1
    have HEX : Kp (Ex (· = g) w w4) := ⟨HUP.out w4 (HEX3.out.trans (hx4.mono (fun k h => h.elim .inl (fun h => .inr (.inr h)))))⟩
    have HUW : Kp (w4.cell? ⟨1, 0, none⟩ = some (.string su)) := ⟨HEX.out.cell HU0.out (Nat.ne_of_lt HX.out.2.2.2.1)⟩
    have hlu := HX.out.2.2.2.1
    have HBUF := Kp.mk hbuf4
    clear hbuf4 hx4 HF HRW3 HB3 hcut c2
    go_wp2_with fail
    refine wp_region_growR (Two w.heap.size w.heap.size g (.cells #[.string ⟨#[]⟩] 56 (0, 0)) (.cells #[.string su] 56 (0, 0)) (.cells #[.string su] 56 (0, 0)) (.cells #[.string su] 56 (0, 0))) (fun _ => Two.refl _ _ _ _ _ _ _ _) (fun _ _ _ h k => h.trans k) (by kernel_rfl) 14 (by decide) (apart_of (by kernel_rfl)) (by kernel_rfl) (crE14 (w.heap.size + 1 + 1) (w.heap.size + 1) (1) w.heap.size su ((n - 1 : Nat) : Int)) (fun _ _ _ _ => True) (fun _ _ _ _ h hb => by unfold crE14 at *; split at h <;> first | exact h | exact hb.2.2.1.1 h) ?_ ?_
    · intro j hj ob ho vs z5 hb5 hpre
      have hsz5 : w4.heap.size ≤ z5.heap.size := hb5.1.size
      have hszW : w.heap.size + 1 < w4.heap.size := by first | omega | exact Nat.lt_of_lt_of_le (by omega) HSZ.out
      have HX5 : Kp (Ex (fun k => k = w.heap.size ∨ k = g) w4 z5) := ⟨⟨hb5.1.os, hb5.1.tape, hb5.1.output, hb5.1.size, fun k hk hp => hb5.2.1 k hk (fun e => hp (.inl e)) (fun e => hp (.inr e))⟩⟩
      rcases j with _ | _ | _ | _ | _ | _ | _ | _ | _ | _ | _ | _ | _ | _ | j
      · obtain rfl := Option.some.inj ho
        simp only [canon, List.range, List.range.loop, List.foldl]
        go_simp
        exact ⟨rfl, Two.refl _ _ _ _ _ _ _ _⟩
      · have e0 : vs 0 = _ := hpre 0 (by decide) (by obtain rfl := Option.some.inj ho; rfl)
        obtain rfl := Option.some.inj ho
        simp only [canon, List.range, List.range.loop, List.foldl]
        go_simp
        exact ⟨rfl, Two.refl _ _ _ _ _ _ _ _⟩
      · have e1 : vs 1 = _ := hpre 1 (by decide) (by obtain rfl := Option.some.inj ho; rfl)
        obtain rfl := Option.some.inj ho
        simp only [canon, List.range, List.range.loop, List.foldl]
        go_simp
        exact ⟨rfl, Two.refl _ _ _ _ _ _ _ _⟩
      · have e2 : vs 2 = _ := hpre 2 (by decide) (by obtain rfl := Option.some.inj ho; rfl)
        have c2 := blk_cell (hb5.keep HBUF.out (by omega) (by omega)) 2
        simp only [bufCs] at c2
        obtain rfl := Option.some.inj ho
        simp only [canon, List.range, List.range.loop, List.foldl]
        go_simp
        exact ⟨rfl, Two.refl _ _ _ _ _ _ _ _⟩
      · have e3 : vs 3 = _ := hpre 3 (by decide) (by obtain rfl := Option.some.inj ho; rfl)
        obtain rfl := Option.some.inj ho
        simp only [canon, List.range, List.range.loop, List.foldl]
        go_simp
        exact ⟨rfl, Two.refl _ _ _ _ _ _ _ _⟩
      · obtain rfl := Option.some.inj ho
        simp only [canon, List.range, List.range.loop, List.foldl]
        go_simp
        exact ⟨rfl, Two.refl _ _ _ _ _ _ _ _⟩
      · have e4 : vs 4 = _ := hpre 4 (by decide) (by obtain rfl := Option.some.inj ho; rfl)
        have e5 : vs 5 = _ := hpre 5 (by decide) (by obtain rfl := Option.some.inj ho; rfl)
        obtain rfl := Option.some.inj ho
        simp only [canon, List.range, List.range.loop, List.foldl]
        go_simp
        exact ⟨⟨_, rfl⟩, Two.refl _ _ _ _ _ _ _ _⟩
      · have c9 := HX5.out.cell HUW.out (fun h => h.elim (fun e => by simp only at e; omega) (fun e => by simp only at e; omega))
        obtain rfl := Option.some.inj ho
        simp only [canon, List.range, List.range.loop, List.foldl]
        go_simp
        exact ⟨rfl, Two.refl _ _ _ _ _ _ _ _⟩
      · obtain rfl := Option.some.inj ho
        simp only [canon, List.range, List.range.loop, List.foldl]
        go_simp
        exact ⟨⟨_, _, rfl⟩, Two.refl _ _ _ _ _ _ _ _⟩
      · obtain ⟨T8, u8, e8⟩ := hpre 8 (by decide) (by obtain rfl := Option.some.inj ho; rfl)
        obtain rfl := Option.some.inj ho
        simp only [canon, List.range, List.range.loop, List.foldl]
        go_simp
        exact ⟨⟨_, rfl⟩, Two.refl _ _ _ _ _ _ _ _⟩
      · obtain ⟨x9, e9⟩ := hpre 9 (by decide) (by obtain rfl := Option.some.inj ho; rfl)
        obtain rfl := Option.some.inj ho
        simp only [canon, List.range, List.range.loop, List.foldl]
        go_simp
        exact ⟨⟨_, rfl⟩, Two.refl _ _ _ _ _ _ _ _⟩
      · obtain ⟨x6, e6⟩ := hpre 6 (by decide) (by obtain rfl := Option.some.inj ho; rfl)
        obtain rfl := Option.some.inj ho
        simp only [canon, List.range, List.range.loop, List.foldl]
        go_simp
        exact ⟨⟨_, rfl⟩, Two.refl _ _ _ _ _ _ _ _⟩
      · have e7 : vs 7 = _ := hpre 7 (by decide) (by obtain rfl := Option.some.inj ho; rfl)
        have hst := two_fst (B := w.heap.size) (r := w.heap.size) (s := g) (a := #[.string ⟨#[]⟩]) (c := #[.string su]) (w := z5) (D := (.cells #[.string su] 56 (0, 0))) (E := (.cells #[.string su] 56 (0, 0))) [.string su] (hb5.2.2.1.2 HRW.out) rfl rfl (by omega) (by omega)
        obtain ⟨⟨x0, c0⟩, f0⟩ := two_cell (hb5.2.2.1.2 HRW.out) 0 (Nat.le_of_ble_eq_true rfl) (Nat.le_of_ble_eq_true rfl)
        simp only [putAll] at hst
        obtain rfl := Option.some.inj ho
        simp only [canon, List.range, List.range.loop, List.foldl]
        go_simp
        exact ⟨undef, hst.1⟩
      · obtain ⟨x10, e10⟩ := hpre 10 (by decide) (by obtain rfl := Option.some.inj ho; rfl)
        obtain rfl := Option.some.inj ho
        simp only [canon, List.range, List.range.loop, List.foldl]
        go_simp
        exact ⟨⟨_, rfl⟩, Two.refl _ _ _ _ _ _ _ _⟩
      · omega
    · intro vs z5 hb5 hr5 _
      have hV := hr5 12 (by omega)
      obtain ⟨x11, es2⟩ := hr5 11 (by omega)
      obtain ⟨x13, es4⟩ := hr5 13 (by omega)
      have HX5 : Kp (Ex (fun k => k = w.heap.size ∨ k = g) w4 z5) := ⟨⟨hb5.1.os, hb5.1.tape, hb5.1.output, hb5.1.size, fun k hk hp => hb5.2.1 k hk (fun e => hp (.inl e)) (fun e => hp (.inr e))⟩⟩
      clear hb5 hr5
      refine wpAny_none (by kernel_rfl) ?_ _
      generalize hA : canon _ _ vs 14 = FR
      have h2 : FR.tmps[2]? = some (vs 11) := by rw [← hA, canon_get (i := 11) rfl (Nat.le_of_ble_eq_true rfl) 14 (by omega) (apart_of (by kernel_rfl))]
      have h3 : FR.tmps[3]? = some (.pointer (some ⟨w.heap.size, 0, none⟩)) := by rw [← hA, canon_keep _ (by kernel_rfl)]; rfl
      have h4 : FR.tmps[4]? = some (vs 13) := by rw [← hA, canon_get (i := 13) rfl (Nat.le_of_ble_eq_true rfl) 14 (by omega) (apart_of (by kernel_rfl))]
      have hD : FR.defers = [] := by rw [← hA, canon_defers]
      rw [es2] at h2
      rw [es4] at h4
      clear hA es2 es4
      go_wp2
      refine bodyPost_ret (res_cell_mid rfl _ _ w.heap.size 56 #[.string su] _ (by rw [Array.getD_eq_getD_getElem?, h3]; rfl) hV Tryd.underlying56 rfl (by kernel_rfl)) hD ?_
      rw [Array.getD_eq_getD_getElem?, Array.getD_eq_getD_getElem?, h2, h4]
      have hE5 : Ex (· = g) w z5 := HEX.out.ext HX5.out (fun j hj h => h.elim (fun e => by omega) id)
      exact crdEnd_none HN.out hE5 (.inr rfl)

end Go.Proofs.YtldhnabhojfmiaaDoorR
