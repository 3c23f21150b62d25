/- The walk of cid.CidFromReader where no version stands there, or another one. -/
import Derived.Test.YtldhnabhojfmiaaDoorRCrdA
namespace Go.Proofs.YtldhnabhojfmiaaDoorR
open Go.RowKit

theorem crd_n0 {bs : List UInt8} (h : uvRead bs = none) : cdRead bs = none := by
  unfold cdRead
  split
  · rename_i hz
    obtain ⟨h0, h1, h2⟩ := hz
    exfalso
    match bs, h1, h with
    | a :: r, h1, h =>
      simp at h1
      subst h1
      have := uvRead_uvarint (x := 18) r (by rw [Lib.uvarint_small (by omega)]; decide)
      rw [Lib.uvarint_small (by omega)] at this
      rw [show ([(18 : Nat).toUInt8] ++ r : List UInt8) = 18 :: r from rfl] at this
      rw [this] at h; cases h
  · rw [h]

set_option maxHeartbeats 8000000 in
set_option maxRecDepth 100000 in
/-- cid.CidFromReader where no varint stands at the beginning. -/
theorem crd_none (g ga n c : Nat) (q : Int) (bs : List UInt8) (ve vu vo vn : Value) (w : World) (hg : RdrAt w g ga n c 0 q) (hr : RdB w (some ⟨ga, 0, none⟩) n c bs) (hag : ga < g) (hn : n ≤ 33554432) (hlt : 2 < g) (hlu : 1 < g) (he : ∀ w', Ex (· = g) w w' → RdErrs ve vu vo vn w') (hc : ∀ w', Ex (· = g) w w' → CdErrs w') (hrd : uvRead bs = none) :
    Calls Tryd.prog 36 #[.iface 77 (.pointer (some ⟨g, 0, none⟩))] w fun e w' => CrdEnd g bs ve w e w' := by
  have hgw : g < w.heap.size := (Array.getElem?_eq_some_iff.1 hg).1
  obtain ⟨Te, ue, rfl⟩ := (he w (Ex.refl _ _)).eofE.iface
  obtain ⟨Tu, uu, rfl⟩ := (he w (Ex.refl _ _)).ueofE.iface
  obtain ⟨su, hsu⟩ := (hc w (Ex.refl _ _)).undef
  have HU0 := Kp.mk hsu
  have hmk := mk064
  have hlen := hr.len
  have HG := Kp.mk (And.intro hg hr)
  have HE := Kp.mk he
  have HC := Kp.mk hc
  have HX := Kp.mk (And.intro hag (And.intro hn (And.intro hlt (And.intro hlu hlen))))
  have HN : Kp (cdRead bs = none) := ⟨crd_n0 hrd⟩
  clear hg hr hsu he hc hag hn hlt hlu hlen
  go_enter Tryd.func36, Tryd.ntmps36
  go_wp2_with fail
  generalize hW1 : (w.alloc _).alloc _ = W1
  obtain ⟨hs1, hcr, hr2, hb2⟩ := crd_start g ga n c q bs w HG.out.1 HG.out.2 _ W1 hW1.symm
  have hr0 : W1.heap[w.heap.size]? = some (.cells #[.string ⟨#[]⟩] 56 (0, 0)) := by rw [← hW1]; exact blk_new (bel_alloc (Below.refl _ _) _)
  refine (toBuf_calls g _ W1).mono ?_
  rintro e w2 ⟨rfl, hw2⟩
  rw [hs1]
  rw [← hw2] at hcr hr2 hb2
  have hrr : w2.heap[w.heap.size]? = some (.cells #[.string ⟨#[]⟩] 56 (0, 0)) := by rw [hw2]; exact blk_keep hr0 (bel_alloc (Below.refl _ _) _)
  have hup : ∀ w', Ex (fun x => x = g ∨ x = w.heap.size + 1 + 1 ∨ x = w.heap.size + 1) w2 w' → Ex (· = g) w w' := fun w' h => Ex.new hb2 h (fun k hk hq => hq.elim id (fun hq => hq.elim (fun e => absurd hk (by omega)) (fun e => absurd hk (by omega))))
  have HUP := Kp.mk hup
  have HRR : Kp (∀ w', Ex (fun x => x = g ∨ x = w.heap.size + 1 + 1 ∨ x = w.heap.size + 1) w2 w' → w'.heap[w.heap.size]? = some (.cells #[.string ⟨#[]⟩] 56 (0, 0))) := ⟨fun w' h => h.keep hrr (fun h => h.elim (fun e => by omega) (fun h => h.elim (fun e => by omega) (fun e => by omega)))⟩
  have HUV := Kp.mk (fun (L : Nat) (hL : L ≤ 40) (w' : World) (h : CrAt g ga n c (w.heap.size + 1 + 1) (w.heap.size + 1) L bs w2 w') => crd_uv g ga n c _ _ L bs _ _ vo vn w2 w' h hr2 HX.out.1 (by omega) (by omega) (by have := HX.out.2.1; omega) HX.out.2.2.1 hL (fun w'' h => HE.out w'' (hup w'' h)))
  have HCR := Kp.mk hcr
  have HRB := Kp.mk hr2
  clear hcr hr2 hb2 hr0 hw2 hrr hup hW1 hs1 hmk HG
  go_wp2_with fail
  refine (HUV.out 0 (by omega) _ HCR.out).mono ?_
  rintro e w3 hu
  clear HCR
  unfold RuEnd at hu
  rw [List.drop_zero] at hu
  rw [hrd] at hu
  obtain ⟨kk, v, hcr, rfl, hv⟩ := hu
  have HEX : Kp (Ex (· = g) w w3) := ⟨HUP.out w3 hcr.ex⟩
  have HUW : Kp (w3.cell? ⟨1, 0, none⟩ = some (.string su)) := ⟨HEX.out.cell HU0.out (Nat.ne_of_lt HX.out.2.2.2.1)⟩
  have hlu := HX.out.2.2.2.1
  have HRW := Kp.mk (HRR.out w3 hcr.ex)
  have HBUF := Kp.mk hcr.buf
  have hszb : w.heap.size + 1 + 1 < w3.heap.size := (Array.getElem?_eq_some_iff.1 HBUF.out).1
  have ce := (HE.out w3 HEX.out).eof
  have heE := (HE.out w3 HEX.out).eofE
  clear hcr HRR HUV HRB
  rcases hv with ⟨_, rfl⟩ | ⟨_, t, ht, hv⟩
  · have hq := errV_same heE
    clear heE hrd
    go_wp2_with fail
    refine wp_region_growR (Two w.heap.size w.heap.size g (.cells #[.string ⟨#[]⟩] 56 (0, 0)) (.cells #[.string su] 56 (0, 0)) (.cells #[.string su] 56 (0, 0)) (.cells #[.string su] 56 (0, 0))) (fun _ => Two.refl _ _ _ _ _ _ _ _) (fun _ _ _ h k => h.trans k) (by kernel_rfl) 5 (by decide) (apart_of (by kernel_rfl)) (by kernel_rfl) (crE5 w.heap.size su Te ue) (fun _ _ _ _ => True) (fun _ _ _ _ h hb => by unfold crE5 at *; split at h <;> first | exact h | exact hb.2.2.1.1 h) ?_ ?_
    · intro j hj ob ho vs z5 hb5 hpre
      have hsz5 : w3.heap.size ≤ z5.heap.size := hb5.1.size
      have hszW : w.heap.size + 1 < w3.heap.size := by first | omega | exact Nat.lt_of_lt_of_le (by omega) HSZ.out
      have HX5 : Kp (Ex (fun k => k = w.heap.size ∨ k = g) w3 z5) := ⟨⟨hb5.1.os, hb5.1.tape, hb5.1.output, hb5.1.size, fun k hk hp => hb5.2.1 k hk (fun e => hp (.inl e)) (fun e => hp (.inr e))⟩⟩
      rcases j with _ | _ | _ | _ | _ | j
      · have c9 := HX5.out.cell HUW.out (fun h => h.elim (fun e => by simp only at e; omega) (fun e => by simp only at e; omega))
        obtain rfl := Option.some.inj ho
        simp only [canon, List.range, List.range.loop, List.foldl]
        go_simp
        exact ⟨rfl, Two.refl _ _ _ _ _ _ _ _⟩
      · obtain rfl := Option.some.inj ho
        simp only [canon, List.range, List.range.loop, List.foldl]
        go_simp
        exact ⟨rfl, Two.refl _ _ _ _ _ _ _ _⟩
      · obtain rfl := Option.some.inj ho
        simp only [canon, List.range, List.range.loop, List.foldl]
        go_simp
        exact ⟨rfl, Two.refl _ _ _ _ _ _ _ _⟩
      · have e0 : vs 0 = _ := hpre 0 (by decide) (by obtain rfl := Option.some.inj ho; rfl)
        have hst := two_fst (B := w.heap.size) (r := w.heap.size) (s := g) (a := #[.string ⟨#[]⟩]) (c := #[.string su]) (w := z5) (D := (.cells #[.string su] 56 (0, 0))) (E := (.cells #[.string su] 56 (0, 0))) [.string su] (hb5.2.2.1.2 HRW.out) rfl rfl (by omega) (by omega)
        obtain ⟨⟨x0, c0⟩, f0⟩ := two_cell (hb5.2.2.1.2 HRW.out) 0 (Nat.le_of_ble_eq_true rfl) (Nat.le_of_ble_eq_true rfl)
        simp only [putAll] at hst
        obtain rfl := Option.some.inj ho
        simp only [canon, List.range, List.range.loop, List.foldl]
        go_simp
        exact ⟨undef, hst.1⟩
      · have e1 : vs 1 = _ := hpre 1 (by decide) (by obtain rfl := Option.some.inj ho; rfl)
        obtain rfl := Option.some.inj ho
        simp only [canon, List.range, List.range.loop, List.foldl]
        go_simp
        exact ⟨rfl, Two.refl _ _ _ _ _ _ _ _⟩
      · omega
    · intro vs z5 hb5 hr5 _
      have hV := hr5 3 (by omega)
      have es2 : vs 2 = _ := hr5 2 (by omega)
      have es4 : vs 4 = _ := hr5 4 (by omega)
      have HX5 : Kp (Ex (fun k => k = w.heap.size ∨ k = g) w3 z5) := ⟨⟨hb5.1.os, hb5.1.tape, hb5.1.output, hb5.1.size, fun k hk hp => hb5.2.1 k hk (fun e => hp (.inl e)) (fun e => hp (.inr e))⟩⟩
      clear hb5 hr5
      refine wpAny_none (by kernel_rfl) ?_ _
      generalize hA : canon _ _ vs 5 = FR
      have h2 : FR.tmps[2]? = some (vs 2) := by rw [← hA, canon_get (i := 2) rfl (Nat.le_of_ble_eq_true rfl) 5 (by omega) (apart_of (by kernel_rfl))]
      have h3 : FR.tmps[3]? = some (.pointer (some ⟨w.heap.size, 0, none⟩)) := by rw [← hA, canon_keep _ (by kernel_rfl)]; rfl
      have h4 : FR.tmps[4]? = some (vs 4) := by rw [← hA, canon_get (i := 4) rfl (Nat.le_of_ble_eq_true rfl) 5 (by omega) (apart_of (by kernel_rfl))]
      have hD : FR.defers = [] := by rw [← hA, canon_defers]
      rw [es2] at h2
      rw [es4] at h4
      clear hA es2 es4
      go_wp2
      refine bodyPost_ret (res_cell_mid rfl _ _ w.heap.size 56 #[.string su] _ (by rw [Array.getD_eq_getD_getElem?, h3]; rfl) hV Tryd.underlying56 rfl (by kernel_rfl)) hD ?_
      rw [Array.getD_eq_getD_getElem?, Array.getD_eq_getD_getElem?, h2, h4]
      have hE5 : Ex (· = g) w z5 := HEX.out.ext HX5.out (fun j hj h => h.elim (fun e => by omega) id)
      exact crdEnd_none HN.out hE5 (.inl rfl)
  · have hq := errV_other hv heE ht
    obtain ⟨T, u, rfl⟩ := hv.iface
    clear heE hv ht hrd
    go_wp2_with fail
    refine wp_region_growR (Two w.heap.size w.heap.size g (.cells #[.string ⟨#[]⟩] 56 (0, 0)) (.cells #[.string su] 56 (0, 0)) (.cells #[.string su] 56 (0, 0)) (.cells #[.string su] 56 (0, 0))) (fun _ => Two.refl _ _ _ _ _ _ _ _) (fun _ _ _ h k => h.trans k) (by kernel_rfl) 12 (by decide) (apart_of (by kernel_rfl)) (by kernel_rfl) (crE12 (w.heap.size + 1 + 1) (w.heap.size + 1) (0 + kk) w.heap.size su) (fun _ _ _ _ => True) (fun _ _ _ _ h hb => by unfold crE12 at *; split at h <;> first | exact h | exact hb.2.2.1.1 h) ?_ ?_
    · intro j hj ob ho vs z5 hb5 hpre
      have hsz5 : w3.heap.size ≤ z5.heap.size := hb5.1.size
      have hszW : w.heap.size + 1 < w3.heap.size := by first | omega | exact Nat.lt_of_lt_of_le (by omega) HSZ.out
      have HX5 : Kp (Ex (fun k => k = w.heap.size ∨ k = g) w3 z5) := ⟨⟨hb5.1.os, hb5.1.tape, hb5.1.output, hb5.1.size, fun k hk hp => hb5.2.1 k hk (fun e => hp (.inl e)) (fun e => hp (.inr e))⟩⟩
      rcases j with _ | _ | _ | _ | _ | _ | _ | _ | _ | _ | _ | _ | j
      · obtain rfl := Option.some.inj ho
        simp only [canon, List.range, List.range.loop, List.foldl]
        go_simp
        exact ⟨rfl, Two.refl _ _ _ _ _ _ _ _⟩
      · have e0 : vs 0 = _ := hpre 0 (by decide) (by obtain rfl := Option.some.inj ho; rfl)
        obtain rfl := Option.some.inj ho
        simp only [canon, List.range, List.range.loop, List.foldl]
        go_simp
        exact ⟨rfl, Two.refl _ _ _ _ _ _ _ _⟩
      · have e1 : vs 1 = _ := hpre 1 (by decide) (by obtain rfl := Option.some.inj ho; rfl)
        obtain rfl := Option.some.inj ho
        simp only [canon, List.range, List.range.loop, List.foldl]
        go_simp
        exact ⟨rfl, Two.refl _ _ _ _ _ _ _ _⟩
      · have e2 : vs 2 = _ := hpre 2 (by decide) (by obtain rfl := Option.some.inj ho; rfl)
        have c2 := blk_cell (hb5.keep HBUF.out (by omega) (by omega)) 2
        simp only [bufCs] at c2
        obtain rfl := Option.some.inj ho
        simp only [canon, List.range, List.range.loop, List.foldl]
        go_simp
        exact ⟨rfl, Two.refl _ _ _ _ _ _ _ _⟩
      · have e3 : vs 3 = _ := hpre 3 (by decide) (by obtain rfl := Option.some.inj ho; rfl)
        obtain rfl := Option.some.inj ho
        simp only [canon, List.range, List.range.loop, List.foldl]
        go_simp
        exact ⟨rfl, Two.refl _ _ _ _ _ _ _ _⟩
      · have c9 := HX5.out.cell HUW.out (fun h => h.elim (fun e => by simp only at e; omega) (fun e => by simp only at e; omega))
        obtain rfl := Option.some.inj ho
        simp only [canon, List.range, List.range.loop, List.foldl]
        go_simp
        exact ⟨rfl, Two.refl _ _ _ _ _ _ _ _⟩
      · obtain rfl := Option.some.inj ho
        simp only [canon, List.range, List.range.loop, List.foldl]
        go_simp
        exact ⟨⟨_, _, rfl⟩, Two.refl _ _ _ _ _ _ _ _⟩
      · obtain ⟨T6, u6, e6⟩ := hpre 6 (by decide) (by obtain rfl := Option.some.inj ho; rfl)
        obtain rfl := Option.some.inj ho
        simp only [canon, List.range, List.range.loop, List.foldl]
        go_simp
        exact ⟨⟨_, rfl⟩, Two.refl _ _ _ _ _ _ _ _⟩
      · obtain ⟨x7, e7⟩ := hpre 7 (by decide) (by obtain rfl := Option.some.inj ho; rfl)
        obtain rfl := Option.some.inj ho
        simp only [canon, List.range, List.range.loop, List.foldl]
        go_simp
        exact ⟨⟨_, rfl⟩, Two.refl _ _ _ _ _ _ _ _⟩
      · have e4 : vs 4 = _ := hpre 4 (by decide) (by obtain rfl := Option.some.inj ho; rfl)
        obtain rfl := Option.some.inj ho
        simp only [canon, List.range, List.range.loop, List.foldl]
        go_simp
        exact ⟨rfl, Two.refl _ _ _ _ _ _ _ _⟩
      · have e5 : vs 5 = _ := hpre 5 (by decide) (by obtain rfl := Option.some.inj ho; rfl)
        have hst := two_fst (B := w.heap.size) (r := w.heap.size) (s := g) (a := #[.string ⟨#[]⟩]) (c := #[.string su]) (w := z5) (D := (.cells #[.string su] 56 (0, 0))) (E := (.cells #[.string su] 56 (0, 0))) [.string su] (hb5.2.2.1.2 HRW.out) rfl rfl (by omega) (by omega)
        obtain ⟨⟨x0, c0⟩, f0⟩ := two_cell (hb5.2.2.1.2 HRW.out) 0 (Nat.le_of_ble_eq_true rfl) (Nat.le_of_ble_eq_true rfl)
        simp only [putAll] at hst
        obtain rfl := Option.some.inj ho
        simp only [canon, List.range, List.range.loop, List.foldl]
        go_simp
        exact ⟨undef, hst.1⟩
      · obtain ⟨x8, e8⟩ := hpre 8 (by decide) (by obtain rfl := Option.some.inj ho; rfl)
        obtain rfl := Option.some.inj ho
        simp only [canon, List.range, List.range.loop, List.foldl]
        go_simp
        exact ⟨⟨_, rfl⟩, Two.refl _ _ _ _ _ _ _ _⟩
      · omega
    · intro vs z5 hb5 hr5 _
      have hV := hr5 10 (by omega)
      have es2 : vs 9 = _ := hr5 9 (by omega)
      obtain ⟨x11, es4⟩ := hr5 11 (by omega)
      have HX5 : Kp (Ex (fun k => k = w.heap.size ∨ k = g) w3 z5) := ⟨⟨hb5.1.os, hb5.1.tape, hb5.1.output, hb5.1.size, fun k hk hp => hb5.2.1 k hk (fun e => hp (.inl e)) (fun e => hp (.inr e))⟩⟩
      clear hb5 hr5
      refine wpAny_none (by kernel_rfl) ?_ _
      generalize hA : canon _ _ vs 12 = FR
      have h2 : FR.tmps[2]? = some (vs 9) := by rw [← hA, canon_get (i := 9) rfl (Nat.le_of_ble_eq_true rfl) 12 (by omega) (apart_of (by kernel_rfl))]
      have h3 : FR.tmps[3]? = some (.pointer (some ⟨w.heap.size, 0, none⟩)) := by rw [← hA, canon_keep _ (by kernel_rfl)]; rfl
      have h4 : FR.tmps[4]? = some (vs 11) := by rw [← hA, canon_get (i := 11) rfl (Nat.le_of_ble_eq_true rfl) 12 (by omega) (apart_of (by kernel_rfl))]
      have hD : FR.defers = [] := by rw [← hA, canon_defers]
      rw [es2] at h2
      rw [es4] at h4
      clear hA es2 es4
      go_wp2
      refine bodyPost_ret (res_cell_mid rfl _ _ w.heap.size 56 #[.string su] _ (by rw [Array.getD_eq_getD_getElem?, h3]; rfl) hV Tryd.underlying56 rfl (by kernel_rfl)) hD ?_
      rw [Array.getD_eq_getD_getElem?, Array.getD_eq_getD_getElem?, h2, h4]
      have hE5 : Ex (· = g) w z5 := HEX.out.ext HX5.out (fun j hj h => h.elim (fun e => by omega) id)
      exact crdEnd_none HN.out hE5 (.inr rfl)

set_option maxHeartbeats 8000000 in
set_option maxRecDepth 100000 in
/-- cid.CidFromReader of another version. -/
theorem crd_ver (g ga n c : Nat) (q : Int) (bs : List UInt8) (ve vu vo vn : Value) (w : World) (hg : RdrAt w g ga n c 0 q) (hr : RdB w (some ⟨ga, 0, none⟩) n c bs) (hag : ga < g) (hn : n ≤ 33554432) (hlt : 2 < g) (hlu : 1 < g) (he : ∀ w', Ex (· = g) w w' → RdErrs ve vu vo vn w') (hc : ∀ w', Ex (· = g) w w' → CdErrs w') (x k : Nat) (hrd : uvRead bs = some (x, k)) (h1 : x ≠ 1) (h18 : x ≠ 18) (hz : cdRead bs = none) :
    Calls Tryd.prog 36 #[.iface 77 (.pointer (some ⟨g, 0, none⟩))] w fun e w' => CrdEnd g bs ve w e w' := by
  have hgw : g < w.heap.size := (Array.getElem?_eq_some_iff.1 hg).1
  obtain ⟨Te, ue, rfl⟩ := (he w (Ex.refl _ _)).eofE.iface
  obtain ⟨Tu, uu, rfl⟩ := (he w (Ex.refl _ _)).ueofE.iface
  obtain ⟨su, hsu⟩ := (hc w (Ex.refl _ _)).undef
  have HU0 := Kp.mk hsu
  have hmk := mk064
  have hlen := hr.len
  have HG := Kp.mk (And.intro hg hr)
  have HE := Kp.mk he
  have HC := Kp.mk hc
  have HX := Kp.mk (And.intro hag (And.intro hn (And.intro hlt (And.intro hlu hlen))))
  have HN := Kp.mk hz
  have q1 : ((x : Int) == 18) = false := beq_eq_false_iff_ne.2 (by omega)
  have q2 : ((x : Int) != 1) = true := by rw [bne, beq_eq_false_iff_ne.2 (by omega)]; rfl
  clear hz h1 h18
  clear hg hr hsu he hc hag hn hlt hlu hlen
  go_enter Tryd.func36, Tryd.ntmps36
  go_wp2_with fail
  generalize hW1 : (w.alloc _).alloc _ = W1
  obtain ⟨hs1, hcr, hr2, hb2⟩ := crd_start g ga n c q bs w HG.out.1 HG.out.2 _ W1 hW1.symm
  have hr0 : W1.heap[w.heap.size]? = some (.cells #[.string ⟨#[]⟩] 56 (0, 0)) := by rw [← hW1]; exact blk_new (bel_alloc (Below.refl _ _) _)
  refine (toBuf_calls g _ W1).mono ?_
  rintro e w2 ⟨rfl, hw2⟩
  rw [hs1]
  rw [← hw2] at hcr hr2 hb2
  have hrr : w2.heap[w.heap.size]? = some (.cells #[.string ⟨#[]⟩] 56 (0, 0)) := by rw [hw2]; exact blk_keep hr0 (bel_alloc (Below.refl _ _) _)
  have hup : ∀ w', Ex (fun x => x = g ∨ x = w.heap.size + 1 + 1 ∨ x = w.heap.size + 1) w2 w' → Ex (· = g) w w' := fun w' h => Ex.new hb2 h (fun k hk hq => hq.elim id (fun hq => hq.elim (fun e => absurd hk (by omega)) (fun e => absurd hk (by omega))))
  have HUP := Kp.mk hup
  have HRR : Kp (∀ w', Ex (fun x => x = g ∨ x = w.heap.size + 1 + 1 ∨ x = w.heap.size + 1) w2 w' → w'.heap[w.heap.size]? = some (.cells #[.string ⟨#[]⟩] 56 (0, 0))) := ⟨fun w' h => h.keep hrr (fun h => h.elim (fun e => by omega) (fun h => h.elim (fun e => by omega) (fun e => by omega)))⟩
  have HUV := Kp.mk (fun (L : Nat) (hL : L ≤ 40) (w' : World) (h : CrAt g ga n c (w.heap.size + 1 + 1) (w.heap.size + 1) L bs w2 w') => crd_uv g ga n c _ _ L bs _ _ vo vn w2 w' h hr2 HX.out.1 (by omega) (by omega) (by have := HX.out.2.1; omega) HX.out.2.2.1 hL (fun w'' h => HE.out w'' (hup w'' h)))
  have HCR := Kp.mk hcr
  have HRB := Kp.mk hr2
  clear hcr hr2 hb2 hr0 hw2 hrr hup hW1 hs1 hmk HG
  go_wp2_with fail
  refine (HUV.out 0 (by omega) _ HCR.out).mono ?_
  rintro e w3 hu
  clear HCR
  unfold RuEnd at hu
  rw [List.drop_zero] at hu
  rw [hrd] at hu
  obtain ⟨rfl, hcr⟩ := hu
  have HCR := Kp.mk hcr
  clear hcr
  have HEX : Kp (Ex (· = g) w w3) := ⟨HUP.out w3 HCR.out.ex⟩
  have HUW : Kp (w3.cell? ⟨1, 0, none⟩ = some (.string su)) := ⟨HEX.out.cell HU0.out (Nat.ne_of_lt HX.out.2.2.2.1)⟩
  have hlu := HX.out.2.2.2.1
  have HRW := Kp.mk (HRR.out w3 HCR.out.ex)
  have HBUF := Kp.mk HCR.out.buf
  have hszb : w.heap.size + 1 + 1 < w3.heap.size := (Array.getElem?_eq_some_iff.1 HBUF.out).1
  clear HRR HUV HRB HCR hrd
  go_wp2_with fail
  refine wp_region_growR (Two w.heap.size w.heap.size g (.cells #[.string ⟨#[]⟩] 56 (0, 0)) (.cells #[.string su] 56 (0, 0)) (.cells #[.string su] 56 (0, 0)) (.cells #[.string su] 56 (0, 0))) (fun _ => Two.refl _ _ _ _ _ _ _ _) (fun _ _ _ h k => h.trans k) (by kernel_rfl) 12 (by decide) (apart_of (by kernel_rfl)) (by kernel_rfl) (crE12 (w.heap.size + 1 + 1) (w.heap.size + 1) (0 + k) w.heap.size su) (fun _ _ _ _ => True) (fun _ _ _ _ h hb => by unfold crE12 at *; split at h <;> first | exact h | exact hb.2.2.1.1 h) ?_ ?_
  · intro j hj ob ho vs z5 hb5 hpre
    have hsz5 : w3.heap.size ≤ z5.heap.size := hb5.1.size
    have hszW : w.heap.size + 1 < w3.heap.size := by first | omega | exact Nat.lt_of_lt_of_le (by omega) HSZ.out
    have HX5 : Kp (Ex (fun k => k = w.heap.size ∨ k = g) w3 z5) := ⟨⟨hb5.1.os, hb5.1.tape, hb5.1.output, hb5.1.size, fun k hk hp => hb5.2.1 k hk (fun e => hp (.inl e)) (fun e => hp (.inr e))⟩⟩
    rcases j with _ | _ | _ | _ | _ | _ | _ | _ | _ | _ | _ | _ | j
    · obtain rfl := Option.some.inj ho
      simp only [canon, List.range, List.range.loop, List.foldl]
      go_simp
      exact ⟨rfl, Two.refl _ _ _ _ _ _ _ _⟩
    · have e0 : vs 0 = _ := hpre 0 (by decide) (by obtain rfl := Option.some.inj ho; rfl)
      obtain rfl := Option.some.inj ho
      simp only [canon, List.range, List.range.loop, List.foldl]
      go_simp
      exact ⟨rfl, Two.refl _ _ _ _ _ _ _ _⟩
    · have e1 : vs 1 = _ := hpre 1 (by decide) (by obtain rfl := Option.some.inj ho; rfl)
      obtain rfl := Option.some.inj ho
      simp only [canon, List.range, List.range.loop, List.foldl]
      go_simp
      exact ⟨rfl, Two.refl _ _ _ _ _ _ _ _⟩
    · have e2 : vs 2 = _ := hpre 2 (by decide) (by obtain rfl := Option.some.inj ho; rfl)
      have c2 := blk_cell (hb5.keep HBUF.out (by omega) (by omega)) 2
      simp only [bufCs] at c2
      obtain rfl := Option.some.inj ho
      simp only [canon, List.range, List.range.loop, List.foldl]
      go_simp
      exact ⟨rfl, Two.refl _ _ _ _ _ _ _ _⟩
    · have e3 : vs 3 = _ := hpre 3 (by decide) (by obtain rfl := Option.some.inj ho; rfl)
      obtain rfl := Option.some.inj ho
      simp only [canon, List.range, List.range.loop, List.foldl]
      go_simp
      exact ⟨rfl, Two.refl _ _ _ _ _ _ _ _⟩
    · have c9 := HX5.out.cell HUW.out (fun h => h.elim (fun e => by simp only at e; omega) (fun e => by simp only at e; omega))
      obtain rfl := Option.some.inj ho
      simp only [canon, List.range, List.range.loop, List.foldl]
      go_simp
      exact ⟨rfl, Two.refl _ _ _ _ _ _ _ _⟩
    · obtain rfl := Option.some.inj ho
      simp only [canon, List.range, List.range.loop, List.foldl]
      go_simp
      refine (errNew_calls _ _).mono ?_
      rintro e6 z6 ⟨⟨T, v, rfl⟩, hb6⟩
      exact ⟨⟨T, v, rfl⟩, Two.of_below hb6 (by omega) (by omega) (by omega)⟩
    · obtain ⟨T6, u6, e6⟩ := hpre 6 (by decide) (by obtain rfl := Option.some.inj ho; rfl)
      obtain rfl := Option.some.inj ho
      simp only [canon, List.range, List.range.loop, List.foldl]
      go_simp
      exact ⟨⟨_, rfl⟩, Two.refl _ _ _ _ _ _ _ _⟩
    · obtain ⟨x7, e7⟩ := hpre 7 (by decide) (by obtain rfl := Option.some.inj ho; rfl)
      obtain rfl := Option.some.inj ho
      simp only [canon, List.range, List.range.loop, List.foldl]
      go_simp
      exact ⟨⟨_, rfl⟩, Two.refl _ _ _ _ _ _ _ _⟩
    · have e4 : vs 4 = _ := hpre 4 (by decide) (by obtain rfl := Option.some.inj ho; rfl)
      obtain rfl := Option.some.inj ho
      simp only [canon, List.range, List.range.loop, List.foldl]
      go_simp
      exact ⟨rfl, Two.refl _ _ _ _ _ _ _ _⟩
    · have e5 : vs 5 = _ := hpre 5 (by decide) (by obtain rfl := Option.some.inj ho; rfl)
      have hst := two_fst (B := w.heap.size) (r := w.heap.size) (s := g) (a := #[.string ⟨#[]⟩]) (c := #[.string su]) (w := z5) (D := (.cells #[.string su] 56 (0, 0))) (E := (.cells #[.string su] 56 (0, 0))) [.string su] (hb5.2.2.1.2 HRW.out) rfl rfl (by omega) (by omega)
      obtain ⟨⟨x0, c0⟩, f0⟩ := two_cell (hb5.2.2.1.2 HRW.out) 0 (Nat.le_of_ble_eq_true rfl) (Nat.le_of_ble_eq_true rfl)
      simp only [putAll] at hst
      obtain rfl := Option.some.inj ho
      simp only [canon, List.range, List.range.loop, List.foldl]
      go_simp
      exact ⟨undef, hst.1⟩
    · obtain ⟨x8, e8⟩ := hpre 8 (by decide) (by obtain rfl := Option.some.inj ho; rfl)
      obtain rfl := Option.some.inj ho
      simp only [canon, List.range, List.range.loop, List.foldl]
      go_simp
      exact ⟨⟨_, rfl⟩, Two.refl _ _ _ _ _ _ _ _⟩
    · omega
  · intro vs z5 hb5 hr5 _
    have hV := hr5 10 (by omega)
    have es2 : vs 9 = _ := hr5 9 (by omega)
    obtain ⟨x11, es4⟩ := hr5 11 (by omega)
    have HX5 : Kp (Ex (fun k => k = w.heap.size ∨ k = g) w3 z5) := ⟨⟨hb5.1.os, hb5.1.tape, hb5.1.output, hb5.1.size, fun k hk hp => hb5.2.1 k hk (fun e => hp (.inl e)) (fun e => hp (.inr e))⟩⟩
    clear hb5 hr5
    refine wpAny_none (by kernel_rfl) ?_ _
    generalize hA : canon _ _ vs 12 = FR
    have h2 : FR.tmps[2]? = some (vs 9) := by rw [← hA, canon_get (i := 9) rfl (Nat.le_of_ble_eq_true rfl) 12 (by omega) (apart_of (by kernel_rfl))]
    have h3 : FR.tmps[3]? = some (.pointer (some ⟨w.heap.size, 0, none⟩)) := by rw [← hA, canon_keep _ (by kernel_rfl)]; rfl
    have h4 : FR.tmps[4]? = some (vs 11) := by rw [← hA, canon_get (i := 11) rfl (Nat.le_of_ble_eq_true rfl) 12 (by omega) (apart_of (by kernel_rfl))]
    have hD : FR.defers = [] := by rw [← hA, canon_defers]
    rw [es2] at h2
    rw [es4] at h4
    clear hA es2 es4
    go_wp2
    refine bodyPost_ret (res_cell_mid rfl _ _ w.heap.size 56 #[.string su] _ (by rw [Array.getD_eq_getD_getElem?, h3]; rfl) hV Tryd.underlying56 rfl (by kernel_rfl)) hD ?_
    rw [Array.getD_eq_getD_getElem?, Array.getD_eq_getD_getElem?, h2, h4]
    have hE5 : Ex (· = g) w z5 := HEX.out.ext HX5.out (fun j hj h => h.elim (fun e => by omega) id)
    exact crdEnd_none HN.out hE5 (.inr rfl)

end Go.Proofs.YtldhnabhojfmiaaDoorR
