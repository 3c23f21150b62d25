/- The walks of the reading of a header of version 2. -/
import Derived.Test.YtpagaagghpopiaaDoorRdFull
import Derived.Test.YtpagaagghpopiaaDoorHeadBytes
import Derived.Test.YtpagaagghpopiaaDoorShelf
namespace Go.Proofs.YtpagaagghpopiaaDoor
open Go.RowKit

set_option maxHeartbeats 1600000 in
set_option maxRecDepth 100000 in
/-- io.ReadFull, where m bytes are there. -/
theorem readFull_calls (g ga gd n c m i : Nat) (q : Int) (bs : List UInt8) (w : World) (hg : RdrAt w g ga n c i q) (hr : RdB w (some ⟨ga, 0, none⟩) n c bs) (hag : ga < g) (hgd : g < gd)
    (hd : w.heap[gd]? = some (.cells (zeros m) 5 (0, 0))) (hm : 0 < m) (hmi : i + m ≤ n) (hn : n ≤ 4611686018427387904) :
    Calls Tryd.prog 41 #[.iface 57 (.pointer (some ⟨g, 0, none⟩)), .slice (some ⟨gd, 0, none⟩) m m] w fun e w' => (e = .returned (.tuple #[.int .i64 m, .nilIface]) ∧ RdrAt w' g ga n c (i + m) (-1) ∧ RdB w' (some ⟨gd, 0, none⟩) m m ((bs.drop i).take m)) ∧ Below g w w' := by
  have H := Kp.mk (readAtLeast_calls g ga gd n c m i q bs w hg hr hag hgd hd hm hmi hn)
  clear hg hr hag hgd hd hm hmi hn
  go_enter Tryd.func41, Tryd.ntmps41
  go_wp2_with fail
  refine H.out.mono ?_
  rintro e w1 ⟨⟨rfl, h1, h2⟩, h3⟩
  have HK := Kp.mk (And.intro h1 (And.intro h2 h3))
  clear h1 h2 h3
  go_wp2_with fail
  go_ret2
  exact ⟨⟨rfl, HK.out.1, HK.out.2.1⟩, HK.out.2.2⟩

/-- binary.LittleEndian.Uint64 of a slice that reads as these bytes. -/
theorem le_calls (g o n c : Nat) (bs : List UInt8) (w : World) (hr : RdB w (some ⟨g, o, none⟩) n c bs) (h8 : 8 ≤ n) :
    Calls Tryd.prog 42 #[.agg #[], .slice (some ⟨g, o, none⟩) n c] w fun e w' => e = .returned (.int .u64 (Lib.leNat (bs.take 8))) ∧ Below w.heap.size w w' := by
  obtain ⟨g', o', e, hc⟩ := hr.lies (by omega)
  have e' := Option.some.inj e
  simp only [Addr.mk.injEq] at e'
  obtain ⟨rfl, rfl, _⟩ := e'
  have hl := hr.len
  match bs, hl, hc with
  | b0 :: b1 :: b2 :: b3 :: b4 :: b5 :: b6 :: b7 :: r, hl, hc =>
    refine Tryd.binary_LE_Uint64 g o n c b0 b1 b2 b3 b4 b5 b6 b7 w h8 ?_ ?_ ?_ ?_ ?_ ?_ ?_ ?_
    · exact hc 0 (by simp)
    · exact hc 1 (by simp)
    · exact hc 2 (by simp)
    · exact hc 3 (by simp)
    · exact hc 4 (by simp)
    · exact hc 5 (by simp)
    · exact hc 6 (by simp)
    · exact hc 7 (by simp)
  | [], hl, _ => simp at hl; omega
  | [_], hl, _ => simp at hl; omega
  | [_, _], hl, _ => simp at hl; omega
  | [_, _, _], hl, _ => simp at hl; omega
  | [_, _, _, _], hl, _ => simp at hl; omega
  | [_, _, _, _, _], hl, _ => simp at hl; omega
  | [_, _, _, _, _, _], hl, _ => simp at hl; omega
  | [_, _, _, _, _, _, _], hl, _ => simp at hl; omega

/-- A part of a slice reads as that part. -/
theorem rd_part {w : World} {g m : Nat} {bs : List UInt8} (h : RdB w (some ⟨g, 0, none⟩) m m bs) (lo hi : Nat) (h1 : lo ≤ hi) (h2 : hi ≤ m) : RdB w (some ⟨g, lo, none⟩) (hi - lo) (m - lo) ((bs.drop lo).take (hi - lo)) := by
  have hl := h.len
  have hlen : ((bs.drop lo).take (hi - lo)).length = hi - lo := by rw [List.length_take, List.length_drop]; omega
  refine ⟨hlen, by omega, by have := h.most; omega, fun h0 => ⟨_, _, rfl, fun i hi' => ?_⟩⟩
  obtain ⟨g', o', e, hc⟩ := h.lies (by omega)
  have e' := Option.some.inj e
  simp only [Addr.mk.injEq] at e'
  obtain ⟨rfl, rfl, _⟩ := e'
  rw [hlen] at hi'
  have := hc (lo + i) (by omega)
  rw [show lo + i = 0 + (lo + i) by omega, this, List.getElem_take, List.getElem_drop]

/-- The eight bytes at k as a number. -/
def leAt (k : Nat) (bs : List UInt8) : Nat := Lib.leNat ((bs.drop k).take 8)

/-- What operations 0 to 6 of 'c.field = LittleEndian.Uint64(buf[lo:lo+8])' leave. -/
def chR (h k gd lo x : Nat) (j : Nat) (v : Value) (_ : World) : Prop :=
  match j with
  | 0 => v = .pointer (some ⟨h, 0, none⟩)
  | 1 => v = .agg #[]
  | 2 => v = .slice (some ⟨gd, 0, none⟩) 16 16
  | 3 => v = .slice (some ⟨gd, lo, none⟩) 8 (16 - lo)
  | 4 => v = .int .u64 x
  | 5 => v = .pointer (some ⟨h, 0, none⟩)
  | 6 => v = .pointer (some ⟨h, k, none⟩)
  | _ => True
theorem hd_set0 {t : TypeId} {w : World} {g a b c d e : Nat} (h : Hd5t t w g a b c d e) (x : Nat) : Hd5t t (w.setCell ⟨g, 0, none⟩ (.int .u64 x)) g x b c d e := blk_set h 0 _
theorem hd_set1 {t : TypeId} {w : World} {g a b c d e : Nat} (h : Hd5t t w g a b c d e) (x : Nat) : Hd5t t (w.setCell ⟨g, 1, none⟩ (.int .u64 x)) g a x c d e := blk_set h 1 _
theorem hd_set2 {t : TypeId} {w : World} {g a b c d e : Nat} (h : Hd5t t w g a b c d e) (x : Nat) : Hd5t t (w.setCell ⟨g, 2, none⟩ (.int .u64 x)) g a b x d e := blk_set h 2 _
theorem hd_set3 {t : TypeId} {w : World} {g a b c d e : Nat} (h : Hd5t t w g a b c d e) (x : Nat) : Hd5t t (w.setCell ⟨g, 3, none⟩ (.int .u64 x)) g a b c x e := blk_set h 3 _
theorem hd_set4 {t : TypeId} {w : World} {g a b c d e : Nat} (h : Hd5t t w g a b c d e) (x : Nat) : Hd5t t (w.setCell ⟨g, 4, none⟩ (.int .u64 x)) g a b c d x := blk_set h 4 _
theorem le_part {w : World} {gd m i lo : Nat} {bs : List UInt8} (h : RdB w (some ⟨gd, 0, none⟩) m m ((bs.drop i).take m)) (h2 : lo + 8 ≤ m) (c : Nat) (hc : c = m - lo) :
    Calls Tryd.prog 42 #[.agg #[], .slice (some ⟨gd, lo, none⟩) 8 c] w fun e w' => e = .returned (.int .u64 (leAt (i + lo) bs)) ∧ Below w.heap.size w w' := by
  subst hc
  have h1 := rd_part h lo (lo + 8) (by omega) h2
  rw [show lo + 8 - lo = 8 by omega] at h1
  have h3 := le_calls gd lo 8 (m - lo) _ w h1 (Nat.le_refl _)
  have e : ((((bs.drop i).take m).drop lo).take 8).take 8 = (bs.drop (i + lo)).take 8 := by
    rw [List.take_take, List.drop_take, List.take_take, List.drop_drop, show min (min 8 8) (m - lo) = 8 by omega]
  rw [e] at h3
  exact h3

set_option maxHeartbeats 4000000 in
set_option maxRecDepth 100000 in
/-- (*Characteristics).ReadFrom, where 16 bytes are there. -/
theorem chRead_calls (h g ga n c i : Nat) (q : Int) (a b x d e : Nat) (bs : List UInt8) (w : World) (hh : Hd5t 52 w h a b x d e) (hg : RdrAt w g ga n c i q) (hr : RdB w (some ⟨ga, 0, none⟩) n c bs) (hhg : h < ga) (hag : ga < g) (hmi : i + 16 ≤ n) (hn : n ≤ 4611686018427387904) :
    Calls Tryd.prog 40 #[.pointer (some ⟨h, 0, none⟩), .iface 57 (.pointer (some ⟨g, 0, none⟩))] w fun e' w' => (e' = .returned (.tuple #[.int .i64 16, .nilIface]) ∧ RdrAt w' g ga n c (i + 16) (-1) ∧ RdB w' (some ⟨ga, 0, none⟩) n c bs ∧ Hd5t 52 w' h (leAt i bs) (leAt (i + 8) bs) x d e) ∧ Below h w w' := by
  have hmk : ∀ W : World, (Instr.makeSlice 59 (.int .i64 16) (.int .i64 16)).run Tryd.prog W = .ok (.slice (some ⟨W.heap.size, 0, none⟩) 16 16) (W.alloc (.cells (zeros 16) 5)) := fun W => mk_bytes 59 Tryd.underlying59 16 (by omega) W
  have HG := Kp.mk (And.intro hh (And.intro hg hr))
  have HX := Kp.mk (And.intro hhg (And.intro hag (And.intro hmi hn)))
  clear hh hg hr hhg hag hmi hn
  go_enter Tryd.func40, Tryd.ntmps40
  go_wp2_with fail
  have hlt : g < w.heap.size := (Array.getElem?_eq_some_iff.1 HG.out.2.1).1
  generalize hW : w.alloc _ = W
  have hbW : Below w.heap.size w W := by rw [← hW]; exact bel_alloc (Below.refl _ _) _
  have hdW : W.heap[w.heap.size]? = some (.cells (zeros 16) 5 (0, 0)) := by rw [← hW]; simp [World.alloc, -World.alloc_eq]
  have hRF := readFull_calls g ga w.heap.size n c 16 i q bs W (blk_keep HG.out.2.1 hbW) (HG.out.2.2.below hbW) HX.out.2.1 hlt hdW (by omega) HX.out.2.2.1 HX.out.2.2.2
  refine hRF.mono ?_
  rintro e1 w1 ⟨⟨rfl, h1, h2⟩, h3⟩
  have hb1 : Below g w w1 := (hbW.mono (by omega)).trans h3
  have HH1 : Kp (Hd5t 52 w1 h a b x d e) := ⟨(hb1.block h (by have := HX.out; omega)).trans HG.out.1⟩
  have HR1 : Kp (RdB w1 (some ⟨ga, 0, none⟩) n c bs) := ⟨HG.out.2.2.belowB hb1 HX.out.2.1⟩
  have HK := Kp.mk (And.intro h1 (And.intro h2 hb1))
  clear h1 h2 h3 hb1 hRF hW hbW hdW hmk
  have hgg := HX.out
  obtain ⟨gd, hgd⟩ : ∃ gd, gd = w.heap.size := ⟨_, rfl⟩
  rw [← hgd] at HK hlt ⊢
  clear hgd hgg
  have HL : Kp (bs.length = n) := ⟨HG.out.2.2.len⟩
  have HK1 := Kp.mk (And.intro HK.out.1 HK.out.2.2)
  have HB2 := Kp.mk HK.out.2.1
  clear HK
  go_wp2_with fail
  refine wp_region_grow (by kernel_rfl) 7 (by decide) (apart_of (by kernel_rfl)) (by kernel_rfl) (chR h 0 gd 0 (leAt (i + 0) bs)) (fun _ _ _ _ => True) (fun _ _ _ _ h _ => by unfold chR at *; exact h) ?_ ?_
  · intro j hj o ho vs w2 hb hpre
    rcases j with _ | _ | _ | _ | _ | _ | _ | j
    · obtain rfl := Option.some.inj ho
      simp only [canon, List.range, List.range.loop, List.foldl]
      go_simp
      exact ⟨rfl, Below.refl _ _⟩
    · obtain rfl := Option.some.inj ho
      simp only [canon, List.range, List.range.loop, List.foldl]
      go_simp
      exact ⟨rfl, Below.refl _ _⟩
    · obtain rfl := Option.some.inj ho
      simp only [canon, List.range, List.range.loop, List.foldl]
      go_simp
      exact ⟨rfl, Below.refl _ _⟩
    · obtain rfl := Option.some.inj ho
      have e2 : vs 2 = _ := hpre 2 (by decide) rfl
      simp only [canon, List.range, List.range.loop, List.foldl]
      go_simp
      exact ⟨rfl, Below.refl _ _⟩
    · obtain rfl := Option.some.inj ho
      have e1 : vs 1 = _ := hpre 1 (by decide) rfl
      have e3 : vs 3 = _ := hpre 3 (by decide) rfl
      simp only [canon, List.range, List.range.loop, List.foldl]
      go_simp
      refine (le_part (HB2.out.below (bel_then (bel_drew (Below.refl _ _)) hb)) (lo := 0) (by omega) _ rfl).mono ?_
      rintro e2 w3 ⟨rfl, hb3⟩
      exact ⟨rfl, hb3⟩
    · obtain rfl := Option.some.inj ho
      have e0 : vs 0 = _ := hpre 0 (by decide) rfl
      simp only [canon, List.range, List.range.loop, List.foldl]
      go_simp
      exact ⟨rfl, Below.refl _ _⟩
    · obtain rfl := Option.some.inj ho
      have e5 : vs 5 = _ := hpre 5 (by decide) rfl
      simp only [canon, List.range, List.range.loop, List.foldl]
      go_simp
      exact ⟨rfl, Below.refl _ _⟩
    · omega
  · intro vs w2 hb hr hd
    have e4 : vs 4 = _ := hr 4 (by omega)
    have e6 : vs 6 = _ := hr 6 (by omega)
    have hb' := bel_then (bel_drew (Below.refl w1.heap.size w1)) hb
    have hh2 := blk_keep HH1.out hb'
    have c0 := blk_cell hh2 0
    have f0 := blk_frozen hh2 0
    simp only [canon, List.range, List.range.loop, List.foldl]
    refine wpAny_last 7 (by kernel_rfl) ?_
    refine wpOp_go rfl rfl ?_
    go_simp
    refine wpAny_none (by kernel_rfl) ?_ _
    generalize hW2 : w2.setCell ⟨h, 0, none⟩ _ = W2
    have hhg := HX.out.1
    have hag := HX.out.2.1
    have HH : Kp (Hd5t 52 W2 h (leAt i bs) b x d e) := ⟨by rw [← hW2]; exact hd_set0 hh2 _⟩
    have HRR : Kp (RdrAt W2 g ga n c (i + 16) (-1)) := ⟨by rw [← hW2]; exact blk_far (p := ⟨h, 0, none⟩) (blk_keep HK1.out.1 hb') (by show g ≠ h; omega) _⟩
    have HBR : Kp (RdB W2 (some ⟨ga, 0, none⟩) n c bs) := ⟨by rw [← hW2]; exact (HR1.out.below hb').far (p := ⟨h, 0, none⟩) (by show ga ≠ h; omega)⟩
    have HBB : Kp (RdB W2 (some ⟨gd, 0, none⟩) 16 16 ((bs.drop i).take 16)) := ⟨by rw [← hW2]; exact (HB2.out.below hb').far (p := ⟨h, 0, none⟩) (by show gd ≠ h; omega)⟩
    have HBE : Kp (Below h w W2) := ⟨by rw [← hW2]; exact belB_set (B := h) (p := ⟨h, 0, none⟩) ((HK1.out.2.mono (by omega)).trans (hb'.mono (by have := (Array.getElem?_eq_some_iff.1 HH1.out).1; omega))) (Nat.le_refl _) _⟩
    clear hW2 hb hr hd e4 e6 hb' hh2 c0 f0 HK1 HB2 HR1 HH1 hhg hag
    go_wp2_with fail
    refine wp_region_grow (by kernel_rfl) 7 (by decide) (apart_of (by kernel_rfl)) (by kernel_rfl) (chR h 1 gd 8 (leAt (i + 8) bs)) (fun _ _ _ _ => True) (fun _ _ _ _ h _ => by unfold chR at *; exact h) ?_ ?_
    · intro j hj o ho vs w2 hb hpre
      rcases j with _ | _ | _ | _ | _ | _ | _ | j
      · obtain rfl := Option.some.inj ho
        simp only [canon, List.range, List.range.loop, List.foldl]
        go_simp
        exact ⟨rfl, Below.refl _ _⟩
      · obtain rfl := Option.some.inj ho
        simp only [canon, List.range, List.range.loop, List.foldl]
        go_simp
        exact ⟨rfl, Below.refl _ _⟩
      · obtain rfl := Option.some.inj ho
        simp only [canon, List.range, List.range.loop, List.foldl]
        go_simp
        exact ⟨rfl, Below.refl _ _⟩
      · obtain rfl := Option.some.inj ho
        have e2 : vs 2 = _ := hpre 2 (by decide) rfl
        simp only [canon, List.range, List.range.loop, List.foldl]
        go_simp
        exact ⟨rfl, Below.refl _ _⟩
      · obtain rfl := Option.some.inj ho
        have e1 : vs 1 = _ := hpre 1 (by decide) rfl
        have e3 : vs 3 = _ := hpre 3 (by decide) rfl
        simp only [canon, List.range, List.range.loop, List.foldl]
        go_simp
        refine (le_part (HBB.out.below (bel_then (bel_drew (Below.refl _ _)) hb)) (lo := 8) (by omega) _ rfl).mono ?_
        rintro e2 w3 ⟨rfl, hb3⟩
        exact ⟨rfl, hb3⟩
      · obtain rfl := Option.some.inj ho
        have e0 : vs 0 = _ := hpre 0 (by decide) rfl
        simp only [canon, List.range, List.range.loop, List.foldl]
        go_simp
        exact ⟨rfl, Below.refl _ _⟩
      · obtain rfl := Option.some.inj ho
        have e5 : vs 5 = _ := hpre 5 (by decide) rfl
        simp only [canon, List.range, List.range.loop, List.foldl]
        go_simp
        exact ⟨rfl, Below.refl _ _⟩
      · omega
    · intro vs w2 hb hr hd
      have e4 : vs 4 = _ := hr 4 (by omega)
      have e6 : vs 6 = _ := hr 6 (by omega)
      have hb' := bel_then (bel_drew (Below.refl W2.heap.size W2)) hb
      have hh2 := blk_keep HH.out hb'
      have c1 := blk_cell hh2 1
      have f1 := blk_frozen hh2 1
      simp only [canon, List.range, List.range.loop, List.foldl]
      refine wpAny_last 7 (by kernel_rfl) ?_
      refine wpOp_go rfl rfl ?_
      go_simp
      refine wpAny_none (by kernel_rfl) ?_ _
      generalize hW3 : w2.setCell ⟨h, 1, none⟩ _ = W3
      have hhg := HX.out.1
      have hag := HX.out.2.1
      have HH3 : Kp (Hd5t 52 W3 h (leAt i bs) (leAt (i + 8) bs) x d e) := ⟨by rw [← hW3]; exact hd_set1 hh2 _⟩
      have HRR3 : Kp (RdrAt W3 g ga n c (i + 16) (-1)) := ⟨by rw [← hW3]; exact blk_far (p := ⟨h, 1, none⟩) (blk_keep HRR.out hb') (by show g ≠ h; omega) _⟩
      have HBR3 : Kp (RdB W3 (some ⟨ga, 0, none⟩) n c bs) := ⟨by rw [← hW3]; exact (HBR.out.below hb').far (p := ⟨h, 1, none⟩) (by show ga ≠ h; omega)⟩
      have HBE3 : Kp (Below h w W3) := ⟨by rw [← hW3]; exact belB_set (B := h) (p := ⟨h, 1, none⟩) (HBE.out.trans (hb'.mono (by have := (Array.getElem?_eq_some_iff.1 HH.out).1; omega))) (Nat.le_refl _) _⟩
      clear hW3 hb hr hd e4 e6 hb' hh2 c1 f1 HBB HBR HRR HBE HH hhg hag
      go_wp2_with fail
      go_ret2
      exact ⟨⟨rfl, HRR3.out, HBR3.out, HH3.out⟩, HBE3.out⟩

end Go.Proofs.YtpagaagghpopiaaDoor
