/- Some texts in one: RdHead, RdHead2, C2Read. -/
import Derived.Test.YtkcpgcaccgahaaaGreatDoorSrcA
import Derived.Test.YtkcpgcaccgahaaaGreatDoorHbA
import Derived.Test.YtkcpgcaccgahaaaGreatDoorShelf
import Derived.Test.YtkcpgcaccgahaaaGreatDoorMhA
namespace Go.Proofs.YtkcpgcaccgahaaaGreatDoor
open Go.RowKit

set_option maxHeartbeats 1600000 in
set_option maxRecDepth 100000 in
/-- io.ReadFull, where m bytes are there. -/
theorem readFull_calls (g ga gd n c m i : Nat) (q : Int) (bs : List UInt8) (w : World) (hg : RdrAt w g ga n c i q) (hr : RdB w (some ⟨ga, 0, none⟩) n c bs) (hag : ga < g) (hgd : g < gd)
    (hd : w.heap[gd]? = some (.cells (zeros m) 5 (0, 0))) (hm : 0 < m) (hmi : i + m ≤ n) (hn : n ≤ 4611686018427387904) :
    Calls Tryz.prog 100 #[.iface 104 (.pointer (some ⟨g, 0, none⟩)), .slice (some ⟨gd, 0, none⟩) m m] w fun e w' => (e = .returned (.tuple #[.int .i64 m, .nilIface]) ∧ RdrAt w' g ga n c (i + m) (-1) ∧ RdB w' (some ⟨gd, 0, none⟩) m m ((bs.drop i).take m)) ∧ Below g w w' := by
  have H := Kp.mk (readAtLeast_calls g ga gd n c m i q bs w hg hr hag hgd hd hm hmi hn)
  clear hg hr hag hgd hd hm hmi hn
  go_enter Tryz.func100, Tryz.ntmps100
  go_wp2_with fail
  refine H.out.mono ?_
  rintro e w1 ⟨⟨rfl, h1, h2⟩, h3⟩
  have HK := Kp.mk (And.intro h1 (And.intro h2 h3))
  clear h1 h2 h3
  go_wp2_with fail
  go_ret2
  exact ⟨⟨rfl, HK.out.1, HK.out.2.1⟩, HK.out.2.2⟩

/-- binary.LittleEndian.Uint64 of a slice that reads as these bytes. -/
theorem le_calls (g o n c : Nat) (bs : List UInt8) (w : World) (hr : RdB w (some ⟨g, o, none⟩) n c bs) (h8 : 8 ≤ n) :
    Calls Tryz.prog 118 #[.agg #[], .slice (some ⟨g, o, none⟩) n c] w fun e w' => e = .returned (.int .u64 (Lib.leNat (bs.take 8))) ∧ Below w.heap.size w w' := by
  obtain ⟨g', o', e, hc⟩ := hr.lies (by omega)
  have e' := Option.some.inj e
  simp only [Addr.mk.injEq] at e'
  obtain ⟨rfl, rfl, _⟩ := e'
  have hl := hr.len
  match bs, hl, hc with
  | b0 :: b1 :: b2 :: b3 :: b4 :: b5 :: b6 :: b7 :: r, hl, hc =>
    refine Tryz.binary_LE_Uint64 g o n c b0 b1 b2 b3 b4 b5 b6 b7 w h8 ?_ ?_ ?_ ?_ ?_ ?_ ?_ ?_
    · exact hc 0 (by simp)
    · exact hc 1 (by simp)
    · exact hc 2 (by simp)
    · exact hc 3 (by simp)
    · exact hc 4 (by simp)
    · exact hc 5 (by simp)
    · exact hc 6 (by simp)
    · exact hc 7 (by simp)
  | [], hl, _ => simp at hl; omega
  | [_], hl, _ => simp at hl; omega
  | [_, _], hl, _ => simp at hl; omega
  | [_, _, _], hl, _ => simp at hl; omega
  | [_, _, _, _], hl, _ => simp at hl; omega
  | [_, _, _, _, _], hl, _ => simp at hl; omega
  | [_, _, _, _, _, _], hl, _ => simp at hl; omega
  | [_, _, _, _, _, _, _], hl, _ => simp at hl; omega

/-- A part of a slice reads as that part. -/
theorem rd_part {w : World} {g m : Nat} {bs : List UInt8} (h : RdB w (some ⟨g, 0, none⟩) m m bs) (lo hi : Nat) (h1 : lo ≤ hi) (h2 : hi ≤ m) : RdB w (some ⟨g, lo, none⟩) (hi - lo) (m - lo) ((bs.drop lo).take (hi - lo)) := by
  have hl := h.len
  have hlen : ((bs.drop lo).take (hi - lo)).length = hi - lo := by rw [List.length_take, List.length_drop]; omega
  refine ⟨hlen, by omega, by have := h.most; omega, fun h0 => ⟨_, _, rfl, fun i hi' => ?_⟩⟩
  obtain ⟨g', o', e, hc⟩ := h.lies (by omega)
  have e' := Option.some.inj e
  simp only [Addr.mk.injEq] at e'
  obtain ⟨rfl, rfl, _⟩ := e'
  rw [hlen] at hi'
  have := hc (lo + i) (by omega)
  rw [show lo + i = 0 + (lo + i) by omega, this, List.getElem_take, List.getElem_drop]

/-- The eight bytes at k as a number. -/
def leAt (k : Nat) (bs : List UInt8) : Nat := Lib.leNat ((bs.drop k).take 8)

/-- What operations 0 to 6 of 'c.field = LittleEndian.Uint64(buf[lo:lo+8])' leave. -/
def chR (h k gd lo x : Nat) (j : Nat) (v : Value) (_ : World) : Prop :=
  match j with
  | 0 => v = .pointer (some ⟨h, 0, none⟩)
  | 1 => v = .agg #[]
  | 2 => v = .slice (some ⟨gd, 0, none⟩) 16 16
  | 3 => v = .slice (some ⟨gd, lo, none⟩) 8 (16 - lo)
  | 4 => v = .int .u64 x
  | 5 => v = .pointer (some ⟨h, 0, none⟩)
  | 6 => v = .pointer (some ⟨h, k, none⟩)
  | _ => True
theorem hd_set0 {t : TypeId} {w : World} {g a b c d e : Nat} (h : Hd5t t w g a b c d e) (x : Nat) : Hd5t t (w.setCell ⟨g, 0, none⟩ (.int .u64 x)) g x b c d e := blk_set h 0 _
theorem hd_set1 {t : TypeId} {w : World} {g a b c d e : Nat} (h : Hd5t t w g a b c d e) (x : Nat) : Hd5t t (w.setCell ⟨g, 1, none⟩ (.int .u64 x)) g a x c d e := blk_set h 1 _
theorem hd_set2 {t : TypeId} {w : World} {g a b c d e : Nat} (h : Hd5t t w g a b c d e) (x : Nat) : Hd5t t (w.setCell ⟨g, 2, none⟩ (.int .u64 x)) g a b x d e := blk_set h 2 _
theorem hd_set3 {t : TypeId} {w : World} {g a b c d e : Nat} (h : Hd5t t w g a b c d e) (x : Nat) : Hd5t t (w.setCell ⟨g, 3, none⟩ (.int .u64 x)) g a b c x e := blk_set h 3 _
theorem hd_set4 {t : TypeId} {w : World} {g a b c d e : Nat} (h : Hd5t t w g a b c d e) (x : Nat) : Hd5t t (w.setCell ⟨g, 4, none⟩ (.int .u64 x)) g a b c d x := blk_set h 4 _
theorem le_part {w : World} {gd m i lo : Nat} {bs : List UInt8} (h : RdB w (some ⟨gd, 0, none⟩) m m ((bs.drop i).take m)) (h2 : lo + 8 ≤ m) (c : Nat) (hc : c = m - lo) :
    Calls Tryz.prog 118 #[.agg #[], .slice (some ⟨gd, lo, none⟩) 8 c] w fun e w' => e = .returned (.int .u64 (leAt (i + lo) bs)) ∧ Below w.heap.size w w' := by
  subst hc
  have h1 := rd_part h lo (lo + 8) (by omega) h2
  rw [show lo + 8 - lo = 8 by omega] at h1
  have h3 := le_calls gd lo 8 (m - lo) _ w h1 (Nat.le_refl _)
  have e : ((((bs.drop i).take m).drop lo).take 8).take 8 = (bs.drop (i + lo)).take 8 := by
    rw [List.take_take, List.drop_take, List.take_take, List.drop_drop, show min (min 8 8) (m - lo) = 8 by omega]
  rw [e] at h3
  exact h3

set_option maxHeartbeats 4000000 in
set_option maxRecDepth 100000 in
/-- (*Characteristics).ReadFrom, where 16 bytes are there. -/
theorem chRead_calls (h g ga n c i : Nat) (q : Int) (a b x d e : Nat) (bs : List UInt8) (w : World) (hh : Hd5t 82 w h a b x d e) (hg : RdrAt w g ga n c i q) (hr : RdB w (some ⟨ga, 0, none⟩) n c bs) (hhg : h < ga) (hag : ga < g) (hmi : i + 16 ≤ n) (hn : n ≤ 4611686018427387904) :
    Calls Tryz.prog 117 #[.pointer (some ⟨h, 0, none⟩), .iface 104 (.pointer (some ⟨g, 0, none⟩))] w fun e' w' => (e' = .returned (.tuple #[.int .i64 16, .nilIface]) ∧ RdrAt w' g ga n c (i + 16) (-1) ∧ RdB w' (some ⟨ga, 0, none⟩) n c bs ∧ Hd5t 82 w' h (leAt i bs) (leAt (i + 8) bs) x d e) ∧ Below h w w' := by
  have hmk : ∀ W : World, (Instr.makeSlice 67 (.int .i64 16) (.int .i64 16)).run Tryz.prog W = .ok (.slice (some ⟨W.heap.size, 0, none⟩) 16 16) (W.alloc (.cells (zeros 16) 5)) := fun W => mk_bytes 67 Tryz.underlying67 16 (by omega) W
  have HG := Kp.mk (And.intro hh (And.intro hg hr))
  have HX := Kp.mk (And.intro hhg (And.intro hag (And.intro hmi hn)))
  clear hh hg hr hhg hag hmi hn
  go_enter Tryz.func117, Tryz.ntmps117
  go_wp2_with fail
  have hlt : g < w.heap.size := (Array.getElem?_eq_some_iff.1 HG.out.2.1).1
  generalize hW : w.alloc _ = W
  have hbW : Below w.heap.size w W := by rw [← hW]; exact bel_alloc (Below.refl _ _) _
  have hdW : W.heap[w.heap.size]? = some (.cells (zeros 16) 5 (0, 0)) := by rw [← hW]; simp [World.alloc, -World.alloc_eq]
  have hRF := readFull_calls g ga w.heap.size n c 16 i q bs W (blk_keep HG.out.2.1 hbW) (HG.out.2.2.below hbW) HX.out.2.1 hlt hdW (by omega) HX.out.2.2.1 HX.out.2.2.2
  refine hRF.mono ?_
  rintro e1 w1 ⟨⟨rfl, h1, h2⟩, h3⟩
  have hb1 : Below g w w1 := (hbW.mono (by omega)).trans h3
  have HH1 : Kp (Hd5t 82 w1 h a b x d e) := ⟨(hb1.block h (by have := HX.out; omega)).trans HG.out.1⟩
  have HR1 : Kp (RdB w1 (some ⟨ga, 0, none⟩) n c bs) := ⟨HG.out.2.2.belowB hb1 HX.out.2.1⟩
  have HK := Kp.mk (And.intro h1 (And.intro h2 hb1))
  clear h1 h2 h3 hb1 hRF hW hbW hdW hmk
  have hgg := HX.out
  obtain ⟨gd, hgd⟩ : ∃ gd, gd = w.heap.size := ⟨_, rfl⟩
  rw [← hgd] at HK hlt ⊢
  clear hgd hgg
  have HL : Kp (bs.length = n) := ⟨HG.out.2.2.len⟩
  have HK1 := Kp.mk (And.intro HK.out.1 HK.out.2.2)
  have HB2 := Kp.mk HK.out.2.1
  clear HK
  go_wp2_with fail
  refine wp_region_grow (by kernel_rfl) 7 (by decide) (apart_of (by kernel_rfl)) (by kernel_rfl) (chR h 0 gd 0 (leAt (i + 0) bs)) (fun _ _ _ _ => True) (fun _ _ _ _ h _ => by unfold chR at *; exact h) ?_ ?_
  · intro j hj o ho vs w2 hb hpre
    rcases j with _ | _ | _ | _ | _ | _ | _ | j
    · obtain rfl := Option.some.inj ho
      simp only [canon, List.range, List.range.loop, List.foldl]
      go_simp
      exact ⟨rfl, Below.refl _ _⟩
    · obtain rfl := Option.some.inj ho
      simp only [canon, List.range, List.range.loop, List.foldl]
      go_simp
      exact ⟨rfl, Below.refl _ _⟩
    · obtain rfl := Option.some.inj ho
      simp only [canon, List.range, List.range.loop, List.foldl]
      go_simp
      exact ⟨rfl, Below.refl _ _⟩
    · obtain rfl := Option.some.inj ho
      have e2 : vs 2 = _ := hpre 2 (by decide) rfl
      simp only [canon, List.range, List.range.loop, List.foldl]
      go_simp
      exact ⟨rfl, Below.refl _ _⟩
    · obtain rfl := Option.some.inj ho
      have e1 : vs 1 = _ := hpre 1 (by decide) rfl
      have e3 : vs 3 = _ := hpre 3 (by decide) rfl
      simp only [canon, List.range, List.range.loop, List.foldl]
      go_simp
      refine (le_part (HB2.out.below (bel_then (bel_drew (Below.refl _ _)) hb)) (lo := 0) (by omega) _ rfl).mono ?_
      rintro e2 w3 ⟨rfl, hb3⟩
      exact ⟨rfl, hb3⟩
    · obtain rfl := Option.some.inj ho
      have e0 : vs 0 = _ := hpre 0 (by decide) rfl
      simp only [canon, List.range, List.range.loop, List.foldl]
      go_simp
      exact ⟨rfl, Below.refl _ _⟩
    · obtain rfl := Option.some.inj ho
      have e5 : vs 5 = _ := hpre 5 (by decide) rfl
      simp only [canon, List.range, List.range.loop, List.foldl]
      go_simp
      exact ⟨rfl, Below.refl _ _⟩
    · omega
  · intro vs w2 hb hr hd
    have e4 : vs 4 = _ := hr 4 (by omega)
    have e6 : vs 6 = _ := hr 6 (by omega)
    have hb' := bel_then (bel_drew (Below.refl w1.heap.size w1)) hb
    have hh2 := blk_keep HH1.out hb'
    have c0 := blk_cell hh2 0
    have f0 := blk_frozen hh2 0
    simp only [canon, List.range, List.range.loop, List.foldl]
    refine wpAny_last 7 (by kernel_rfl) ?_
    refine wpOp_go rfl rfl ?_
    go_simp
    refine wpAny_none (by kernel_rfl) ?_ _
    generalize hW2 : w2.setCell ⟨h, 0, none⟩ _ = W2
    have hhg := HX.out.1
    have hag := HX.out.2.1
    have HH : Kp (Hd5t 82 W2 h (leAt i bs) b x d e) := ⟨by rw [← hW2]; exact hd_set0 hh2 _⟩
    have HRR : Kp (RdrAt W2 g ga n c (i + 16) (-1)) := ⟨by rw [← hW2]; exact blk_far (p := ⟨h, 0, none⟩) (blk_keep HK1.out.1 hb') (by show g ≠ h; omega) _⟩
    have HBR : Kp (RdB W2 (some ⟨ga, 0, none⟩) n c bs) := ⟨by rw [← hW2]; exact (HR1.out.below hb').far (p := ⟨h, 0, none⟩) (by show ga ≠ h; omega)⟩
    have HBB : Kp (RdB W2 (some ⟨gd, 0, none⟩) 16 16 ((bs.drop i).take 16)) := ⟨by rw [← hW2]; exact (HB2.out.below hb').far (p := ⟨h, 0, none⟩) (by show gd ≠ h; omega)⟩
    have HBE : Kp (Below h w W2) := ⟨by rw [← hW2]; exact belB_set (B := h) (p := ⟨h, 0, none⟩) ((HK1.out.2.mono (by omega)).trans (hb'.mono (by have := (Array.getElem?_eq_some_iff.1 HH1.out).1; omega))) (Nat.le_refl _) _⟩
    clear hW2 hb hr hd e4 e6 hb' hh2 c0 f0 HK1 HB2 HR1 HH1 hhg hag
    go_wp2_with fail
    refine wp_region_grow (by kernel_rfl) 7 (by decide) (apart_of (by kernel_rfl)) (by kernel_rfl) (chR h 1 gd 8 (leAt (i + 8) bs)) (fun _ _ _ _ => True) (fun _ _ _ _ h _ => by unfold chR at *; exact h) ?_ ?_
    · intro j hj o ho vs w2 hb hpre
      rcases j with _ | _ | _ | _ | _ | _ | _ | j
      · obtain rfl := Option.some.inj ho
        simp only [canon, List.range, List.range.loop, List.foldl]
        go_simp
        exact ⟨rfl, Below.refl _ _⟩
      · obtain rfl := Option.some.inj ho
        simp only [canon, List.range, List.range.loop, List.foldl]
        go_simp
        exact ⟨rfl, Below.refl _ _⟩
      · obtain rfl := Option.some.inj ho
        simp only [canon, List.range, List.range.loop, List.foldl]
        go_simp
        exact ⟨rfl, Below.refl _ _⟩
      · obtain rfl := Option.some.inj ho
        have e2 : vs 2 = _ := hpre 2 (by decide) rfl
        simp only [canon, List.range, List.range.loop, List.foldl]
        go_simp
        exact ⟨rfl, Below.refl _ _⟩
      · obtain rfl := Option.some.inj ho
        have e1 : vs 1 = _ := hpre 1 (by decide) rfl
        have e3 : vs 3 = _ := hpre 3 (by decide) rfl
        simp only [canon, List.range, List.range.loop, List.foldl]
        go_simp
        refine (le_part (HBB.out.below (bel_then (bel_drew (Below.refl _ _)) hb)) (lo := 8) (by omega) _ rfl).mono ?_
        rintro e2 w3 ⟨rfl, hb3⟩
        exact ⟨rfl, hb3⟩
      · obtain rfl := Option.some.inj ho
        have e0 : vs 0 = _ := hpre 0 (by decide) rfl
        simp only [canon, List.range, List.range.loop, List.foldl]
        go_simp
        exact ⟨rfl, Below.refl _ _⟩
      · obtain rfl := Option.some.inj ho
        have e5 : vs 5 = _ := hpre 5 (by decide) rfl
        simp only [canon, List.range, List.range.loop, List.foldl]
        go_simp
        exact ⟨rfl, Below.refl _ _⟩
      · omega
    · intro vs w2 hb hr hd
      have e4 : vs 4 = _ := hr 4 (by omega)
      have e6 : vs 6 = _ := hr 6 (by omega)
      have hb' := bel_then (bel_drew (Below.refl W2.heap.size W2)) hb
      have hh2 := blk_keep HH.out hb'
      have c1 := blk_cell hh2 1
      have f1 := blk_frozen hh2 1
      simp only [canon, List.range, List.range.loop, List.foldl]
      refine wpAny_last 7 (by kernel_rfl) ?_
      refine wpOp_go rfl rfl ?_
      go_simp
      refine wpAny_none (by kernel_rfl) ?_ _
      generalize hW3 : w2.setCell ⟨h, 1, none⟩ _ = W3
      have hhg := HX.out.1
      have hag := HX.out.2.1
      have HH3 : Kp (Hd5t 82 W3 h (leAt i bs) (leAt (i + 8) bs) x d e) := ⟨by rw [← hW3]; exact hd_set1 hh2 _⟩
      have HRR3 : Kp (RdrAt W3 g ga n c (i + 16) (-1)) := ⟨by rw [← hW3]; exact blk_far (p := ⟨h, 1, none⟩) (blk_keep HRR.out hb') (by show g ≠ h; omega) _⟩
      have HBR3 : Kp (RdB W3 (some ⟨ga, 0, none⟩) n c bs) := ⟨by rw [← hW3]; exact (HBR.out.below hb').far (p := ⟨h, 1, none⟩) (by show ga ≠ h; omega)⟩
      have HBE3 : Kp (Below h w W3) := ⟨by rw [← hW3]; exact belB_set (B := h) (p := ⟨h, 1, none⟩) (HBE.out.trans (hb'.mono (by have := (Array.getElem?_eq_some_iff.1 HH.out).1; omega))) (Nat.le_refl _) _⟩
      clear hW3 hb hr hd e4 e6 hb' hh2 c1 f1 HBB HBR HRR HBE HH hhg hag
      go_wp2_with fail
      go_ret2
      exact ⟨⟨rfl, HRR3.out, HBR3.out, HH3.out⟩, HBE3.out⟩

end Go.Proofs.YtkcpgcaccgahaaaGreatDoor
namespace Go.Proofs.YtkcpgcaccgahaaaGreatDoor
open Go.RowKit

/-- Which headers are let in. -/
def hdSound (off size idx : Nat) : Prop := 51 ≤ off ∧ off < 9223372036854775808 ∧ 0 < size ∧ size < 9223372036854775808 ∧ idx < 9223372036854775808
instance (off size idx : Nat) : Decidable (hdSound off size idx) := by unfold hdSound; infer_instance

/-- What (*Header).ReadFrom leaves. -/
def HrEnd (h : Nat) (hi lo off size idx : Nat) (e : Ending) (w' : World) : Prop :=
  if hdSound off size idx then e = .returned (.tuple #[.int .i64 40, .nilIface]) ∧ Hd5t 82 w' h hi lo off size idx
  else ∃ v T u, e = .returned (.tuple #[v, .iface T u])
theorem hrEnd_bad {h hi lo off size idx : Nat} {v u : Value} {T : TypeId} {w' : World} (hs : ¬ hdSound off size idx) : HrEnd h hi lo off size idx (.returned (.tuple #[v, .iface T u])) w' := by
  unfold HrEnd; rw [if_neg hs]; exact ⟨v, T, u, rfl⟩
theorem hrEnd_ok {h hi lo off size idx : Nat} {w' : World} (hs : hdSound off size idx) (hh : Hd5t 82 w' h hi lo off size idx) : HrEnd h hi lo off size idx (.returned (.tuple #[.int .i64 40, .nilIface])) w' := by
  unfold HrEnd; rw [if_pos hs]; exact ⟨rfl, hh⟩
theorem leNat_lt' : ∀ l : List UInt8, Lib.leNat l < 256 ^ l.length
  | [] => by simp [Lib.leNat]
  | b :: r => by
    have h1 := leNat_lt' r
    have h2 := b.toNat_lt
    rw [Lib.leNat, List.length_cons, Nat.pow_succ]
    omega
theorem leAt_lt (k : Nat) (bs : List UInt8) : leAt k bs < 2 ^ 64 := by
  unfold leAt
  refine Nat.lt_of_lt_of_le (leNat_lt' _) ?_
  rw [show (2 : Nat) ^ 64 = 256 ^ 8 by decide]
  exact Nat.pow_le_pow_right (by decide) (by rw [List.length_take]; omega)

theorem w64_lo {x : Nat} (h : x < 9223372036854775808) : wrap64 (x : Int) = x := by unfold wrap64; omega
theorem w64_hi {x : Nat} (h : 9223372036854775808 ≤ x) (h2 : x < 2 ^ 64) : wrap64 (x : Int) < 0 := by unfold wrap64; omega
/-- What operations 0 to 3 of 'x := LittleEndian.Uint64(buf[lo:lo+8])' leave. -/
def hrR (gd lo x : Nat) (j : Nat) (v : Value) (_ : World) : Prop :=
  match j with
  | 0 => v = .agg #[]
  | 1 => v = .slice (some ⟨gd, 0, none⟩) 24 24
  | 2 => v = .slice (some ⟨gd, lo, none⟩) 8 (24 - lo)
  | 3 => v = .int .u64 x
  | _ => True

set_option maxHeartbeats 8000000 in
set_option maxRecDepth 100000 in
/-- (*Header).ReadFrom, where 40 bytes are there. -/
theorem hdRead_calls (h g ga n c : Nat) (q : Int) (a b x d e : Nat) (bs : List UInt8) (w : World) (hh : Hd5t 82 w h a b x d e) (hg : RdrAt w g ga n c 0 q) (hr : RdB w (some ⟨ga, 0, none⟩) n c bs) (hhg : h < ga) (hag : ga < g) (hmi : 40 ≤ n) (hn : n ≤ 4611686018427387904) :
    Calls Tryz.prog 98 #[.pointer (some ⟨h, 0, none⟩), .iface 104 (.pointer (some ⟨g, 0, none⟩))] w fun e' w' => HrEnd h (leAt 0 bs) (leAt 8 bs) (leAt 16 bs) (leAt 24 bs) (leAt 32 bs) e' w' ∧ Below h w w' := by
  have HC := Kp.mk (chRead_calls h g ga n c 0 q a b x d e bs w hh hg hr hhg hag (by omega) hn)
  have hmk : ∀ W : World, (Instr.makeSlice 67 (.int .i64 24) (.int .i64 24)).run Tryz.prog W = .ok (.slice (some ⟨W.heap.size, 0, none⟩) 24 24) (W.alloc (.cells (zeros 24) 5)) := fun W => mk_bytes 67 Tryz.underlying67 24 (by omega) W
  have HX := Kp.mk (And.intro hhg (And.intro hag (And.intro hmi hn)))
  clear hh hg hr hhg hag hmi hn
  go_enter Tryz.func98, Tryz.ntmps98
  go_wp2_with fail
  refine HC.out.mono ?_
  rintro e1 w1 ⟨⟨rfl, hg1, hr1, hh1⟩, hb1⟩
  have HG1 := Kp.mk (And.intro hg1 (And.intro hr1 (And.intro hh1 hb1)))
  clear hg1 hr1 hh1 hb1 HC
  go_wp2_with fail
  have hlt : g < w1.heap.size := (Array.getElem?_eq_some_iff.1 HG1.out.1).1
  generalize hW : w1.alloc _ = W
  have hbW : Below w1.heap.size w1 W := by rw [← hW]; exact bel_alloc (Below.refl _ _) _
  have hdW : W.heap[w1.heap.size]? = some (.cells (zeros 24) 5 (0, 0)) := by rw [← hW]; simp [World.alloc, -World.alloc_eq]
  have hRF := readFull_calls g ga w1.heap.size n c 24 16 (-1) bs W (blk_keep HG1.out.1 hbW) (HG1.out.2.1.below hbW) HX.out.2.1 hlt hdW (by omega) HX.out.2.2.1 HX.out.2.2.2
  refine hRF.mono ?_
  rintro e1 w2 ⟨⟨rfl, h1, h2⟩, h3⟩
  have hb2 : Below g w1 w2 := (hbW.mono (by omega)).trans h3
  have HH2 : Kp (Hd5t 82 w2 h (leAt 0 bs) (leAt 8 bs) x d e) := ⟨(hb2.block h (by have := HX.out; omega)).trans HG1.out.2.2.1⟩
  have HB2 : Kp (Below h w w2) := ⟨HG1.out.2.2.2.trans (hb2.mono (by have := HX.out; omega))⟩
  have HK : Kp (RdB w2 (some ⟨w1.heap.size, 0, none⟩) 24 24 ((bs.drop 16).take 24)) := ⟨h2⟩
  obtain ⟨gd, hgd⟩ : ∃ gd, gd = w1.heap.size := ⟨_, rfl⟩
  rw [← hgd] at HK hlt ⊢
  clear h1 h2 h3 hb2 hRF hW hbW hdW hmk HG1 hgd
  go_wp2_with fail
  refine wp_region_grow (by kernel_rfl) 4 (by decide) (apart_of (by kernel_rfl)) (by kernel_rfl) (hrR gd 0 (leAt 16 bs)) (fun _ _ _ _ => True) (fun _ _ _ _ h _ => by unfold hrR at *; exact h) ?_ ?_
  · intro j hj o ho vs w5 hb hpre
    rcases j with _ | _ | _ | _ | j
    · obtain rfl := Option.some.inj ho
      simp only [canon, List.range, List.range.loop, List.foldl]
      go_simp
      exact ⟨rfl, Below.refl _ _⟩
    · obtain rfl := Option.some.inj ho
      simp only [canon, List.range, List.range.loop, List.foldl]
      go_simp
      exact ⟨rfl, Below.refl _ _⟩
    · obtain rfl := Option.some.inj ho
      have e1 : vs 1 = _ := hpre 1 (by decide) rfl
      simp only [canon, List.range, List.range.loop, List.foldl]
      go_simp
      exact ⟨rfl, Below.refl _ _⟩
    · obtain rfl := Option.some.inj ho
      have e0 : vs 0 = _ := hpre 0 (by decide) rfl
      have e2 : vs 2 = _ := hpre 2 (by decide) rfl
      simp only [canon, List.range, List.range.loop, List.foldl]
      go_simp
      refine (le_part (i := 16) (HK.out.below (bel_then (bel_drew (Below.refl _ _)) hb)) (lo := 0) (by omega) _ rfl).mono ?_
      rintro e2 w6 ⟨rfl, hb3⟩
      exact ⟨rfl, hb3⟩
    · omega
  · intro vs w3 hb hr hd
    have e3 : vs 3 = _ := hr 3 (by omega)
    have hb' := bel_then (bel_drew (Below.refl w2.heap.size w2)) hb
    have HK3 := Kp.mk (HK.out.below hb')
    have HH3 := Kp.mk (show Hd5t 82 w3 h (leAt 0 bs) (leAt 8 bs) x d e from blk_keep HH2.out hb')
    have HB3 := Kp.mk (HB2.out.trans (hb'.mono (by have := (Array.getElem?_eq_some_iff.1 HH2.out).1; omega)))
    clear HK HH2 HB2 hb' hb
    simp only [canon, List.range, List.range.loop, List.foldl]
    refine wpAny_last 4 (by kernel_rfl) ?_
    refine wpOp_go rfl rfl ?_
    go_simp
    refine wpAny_none (by kernel_rfl) ?_ _
    clear hr hd
    go_wp2_with fail
    refine wp_region_grow (by kernel_rfl) 4 (by decide) (apart_of (by kernel_rfl)) (by kernel_rfl) (hrR gd 8 (leAt 24 bs)) (fun _ _ _ _ => True) (fun _ _ _ _ h _ => by unfold hrR at *; exact h) ?_ ?_
    · intro j hj o ho vs w5 hb hpre
      rcases j with _ | _ | _ | _ | j
      · obtain rfl := Option.some.inj ho
        simp only [canon, List.range, List.range.loop, List.foldl]
        go_simp
        exact ⟨rfl, Below.refl _ _⟩
      · obtain rfl := Option.some.inj ho
        simp only [canon, List.range, List.range.loop, List.foldl]
        go_simp
        exact ⟨rfl, Below.refl _ _⟩
      · obtain rfl := Option.some.inj ho
        have e1 : vs 1 = _ := hpre 1 (by decide) rfl
        simp only [canon, List.range, List.range.loop, List.foldl]
        go_simp
        exact ⟨rfl, Below.refl _ _⟩
      · obtain rfl := Option.some.inj ho
        have e0 : vs 0 = _ := hpre 0 (by decide) rfl
        have e2 : vs 2 = _ := hpre 2 (by decide) rfl
        simp only [canon, List.range, List.range.loop, List.foldl]
        go_simp
        refine (le_part (i := 16) (HK3.out.below (bel_then (bel_drew (Below.refl _ _)) hb)) (lo := 8) (by omega) _ rfl).mono ?_
        rintro e2 w6 ⟨rfl, hb3⟩
        exact ⟨rfl, hb3⟩
      · omega
    · intro vs w4 hb hr hd
      have e3 : vs 3 = _ := hr 3 (by omega)
      have hb' := bel_then (bel_drew (Below.refl w3.heap.size w3)) hb
      have HK4 := Kp.mk (HK3.out.below hb')
      have HH4 := Kp.mk (show Hd5t 82 w4 h (leAt 0 bs) (leAt 8 bs) x d e from blk_keep HH3.out hb')
      have HB4 := Kp.mk (HB3.out.trans (hb'.mono (by have := (Array.getElem?_eq_some_iff.1 HH3.out).1; omega)))
      clear HK3 HH3 HB3 hb' hb
      simp only [canon, List.range, List.range.loop, List.foldl]
      refine wpAny_last 4 (by kernel_rfl) ?_
      refine wpOp_go rfl rfl ?_
      go_simp
      refine wpAny_none (by kernel_rfl) ?_ _
      clear hr hd
      go_wp2_with fail
      refine wp_region_grow (by kernel_rfl) 4 (by decide) (apart_of (by kernel_rfl)) (by kernel_rfl) (hrR gd 16 (leAt 32 bs)) (fun _ _ _ _ => True) (fun _ _ _ _ h _ => by unfold hrR at *; exact h) ?_ ?_
      · intro j hj o ho vs w5 hb hpre
        rcases j with _ | _ | _ | _ | j
        · obtain rfl := Option.some.inj ho
          simp only [canon, List.range, List.range.loop, List.foldl]
          go_simp
          exact ⟨rfl, Below.refl _ _⟩
        · obtain rfl := Option.some.inj ho
          simp only [canon, List.range, List.range.loop, List.foldl]
          go_simp
          exact ⟨rfl, Below.refl _ _⟩
        · obtain rfl := Option.some.inj ho
          have e1 : vs 1 = _ := hpre 1 (by decide) rfl
          simp only [canon, List.range, List.range.loop, List.foldl]
          go_simp
          exact ⟨rfl, Below.refl _ _⟩
        · obtain rfl := Option.some.inj ho
          have e0 : vs 0 = _ := hpre 0 (by decide) rfl
          have e2 : vs 2 = _ := hpre 2 (by decide) rfl
          simp only [canon, List.range, List.range.loop, List.foldl]
          go_simp
          refine (le_part (i := 16) (HK4.out.below (bel_then (bel_drew (Below.refl _ _)) hb)) (lo := 16) (by omega) _ rfl).mono ?_
          rintro e2 w6 ⟨rfl, hb3⟩
          exact ⟨rfl, hb3⟩
        · omega
      · intro vs w5 hb hr hd
        have e3 : vs 3 = _ := hr 3 (by omega)
        have hb' := bel_then (bel_drew (Below.refl w4.heap.size w4)) hb
        have HK5 := Kp.mk (HK4.out.below hb')
        have HH5 := Kp.mk (show Hd5t 82 w5 h (leAt 0 bs) (leAt 8 bs) x d e from blk_keep HH4.out hb')
        have HB5 := Kp.mk (HB4.out.trans (hb'.mono (by have := (Array.getElem?_eq_some_iff.1 HH4.out).1; omega)))
        clear HK4 HH4 HB4 hb' hb
        simp only [canon, List.range, List.range.loop, List.foldl]
        refine wpAny_last 4 (by kernel_rfl) ?_
        refine wpOp_go rfl rfl ?_
        go_simp
        refine wpAny_none (by kernel_rfl) ?_ _
        clear hr hd
        have l1 := leAt_lt 16 bs
        have l2 := leAt_lt 24 bs
        have l3 := leAt_lt 32 bs
        by_cases s1 : 51 ≤ leAt 16 bs ∧ leAt 16 bs < 9223372036854775808
        · by_cases s2 : 0 < leAt 24 bs ∧ leAt 24 bs < 9223372036854775808
          · by_cases s3 : leAt 32 bs < 9223372036854775808
            · have SND : Kp (hdSound (leAt 16 bs) (leAt 24 bs) (leAt 32 bs)) := ⟨⟨s1.1, s1.2, s2.1, s2.2, s3⟩⟩
              have q1 : decide (wrap64 (leAt 16 bs : Int) < 51) = false := decide_eq_false (by rw [w64_lo s1.2]; omega)
              have q2 : decide (wrap64 (leAt 24 bs : Int) ≤ 0) = false := decide_eq_false (by rw [w64_lo s2.2]; omega)
              have q3 : decide (wrap64 (leAt 32 bs : Int) < 0) = false := decide_eq_false (by rw [w64_lo s3]; omega)
              clear l1 l2 l3 s1 s2 s3
              have c2 := blk_cell HH5.out 2
              have c3 := blk_cell HH5.out 3
              have c4 := blk_cell HH5.out 4
              have f2 := blk_frozen HH5.out 2
              have f3 := blk_frozen HH5.out 3
              have f4 := blk_frozen HH5.out 4
              have HE := Kp.mk (And.intro (hd_set4 (hd_set3 (hd_set2 HH5.out (leAt 16 bs)) (leAt 24 bs)) (leAt 32 bs)) (belB_set (B := h) (p := ⟨h, 4, none⟩) (belB_set (B := h) (p := ⟨h, 3, none⟩) (belB_set (B := h) (p := ⟨h, 2, none⟩) HB5.out (Nat.le_refl _) (.int .u64 (leAt 16 bs))) (Nat.le_refl _) (.int .u64 (leAt 24 bs))) (Nat.le_refl _) (.int .u64 (leAt 32 bs))))
              clear HK5 HH5 HB5
              go_wp2_with fail
              go_ret2
              exact ⟨hrEnd_ok SND.out HE.out.1, HE.out.2⟩
            · have BAD : Kp (¬ hdSound (leAt 16 bs) (leAt 24 bs) (leAt 32 bs)) := ⟨fun hs => s3 hs.2.2.2.2⟩
              have q1 : decide (wrap64 (leAt 16 bs : Int) < 51) = false := decide_eq_false (by rw [w64_lo s1.2]; omega)
              have q2 : decide (wrap64 (leAt 24 bs : Int) ≤ 0) = false := decide_eq_false (by rw [w64_lo s2.2]; omega)
              have q3 : decide (wrap64 (leAt 32 bs : Int) < 0) = true := decide_eq_true (by have := w64_hi (Nat.not_lt.1 s3) l3; omega)
              clear l1 l2 l3 s1 s2 s3
              go_wp2_with fail
              refine (errNew_calls _ _).mono ?_
              rintro e6 w6 ⟨⟨T, v, rfl⟩, hb6⟩
              have HB6 := Kp.mk (HB5.out.trans (hb6.mono (by have := (Array.getElem?_eq_some_iff.1 HH5.out).1; omega)))
              clear hb6
              go_wp2_with fail
              go_ret2
              exact ⟨hrEnd_bad BAD.out, HB6.out⟩
          · have BAD : Kp (¬ hdSound (leAt 16 bs) (leAt 24 bs) (leAt 32 bs)) := ⟨fun hs => s2 ⟨hs.2.2.1, hs.2.2.2.1⟩⟩
            have q1 : decide (wrap64 (leAt 16 bs : Int) < 51) = false := decide_eq_false (by rw [w64_lo s1.2]; omega)
            have q2 : decide (wrap64 (leAt 24 bs : Int) ≤ 0) = true := decide_eq_true (by
              by_cases h63 : leAt 24 bs < 9223372036854775808
              · rw [w64_lo h63]; omega
              · have := w64_hi (Nat.not_lt.1 h63) l2; omega)
            clear l1 l2 l3 s1 s2
            go_wp2_with fail
            refine (errNew_calls _ _).mono ?_
            rintro e6 w6 ⟨⟨T, v, rfl⟩, hb6⟩
            have HB6 := Kp.mk (HB5.out.trans (hb6.mono (by have := (Array.getElem?_eq_some_iff.1 HH5.out).1; omega)))
            clear hb6
            go_wp2_with fail
            go_ret2
            exact ⟨hrEnd_bad BAD.out, HB6.out⟩
        · have BAD : Kp (¬ hdSound (leAt 16 bs) (leAt 24 bs) (leAt 32 bs)) := ⟨fun hs => s1 ⟨hs.1, hs.2.1⟩⟩
          have q1 : decide (wrap64 (leAt 16 bs : Int) < 51) = true := decide_eq_true (by
            by_cases h63 : leAt 16 bs < 9223372036854775808
            · rw [w64_lo h63]; omega
            · have := w64_hi (Nat.not_lt.1 h63) l1; omega)
          clear l1 l2 l3 s1
          go_wp2_with fail
          refine (errNew_calls _ _).mono ?_
          rintro e6 w6 ⟨⟨T, v, rfl⟩, hb6⟩
          have HB6 := Kp.mk (HB5.out.trans (hb6.mono (by have := (Array.getElem?_eq_some_iff.1 HH5.out).1; omega)))
          clear hb6
          go_wp2_with fail
          go_ret2
          exact ⟨hrEnd_bad BAD.out, HB6.out⟩

end Go.Proofs.YtkcpgcaccgahaaaGreatDoor
namespace Go.Proofs.YtkcpgcaccgahaaaGreatDoor
open Go.RowKit

set_option maxHeartbeats 800000 in
theorem headOut_calls (a b c d e : Int) (w : World) :
    Calls Tryz.prog 35 #[.agg #[.int .u64 a, .int .u64 b, .int .u64 c, .int .u64 d, .int .u64 e]] w fun e' w' => e' = .returned (.agg #[.int .u64 a, .int .u64 b, .int .u64 c, .int .u64 d, .int .u64 e]) ∧ Below w.heap.size w w' := by
  go_enter Tryz.func35, Tryz.ntmps35
  go_wp2
  exact bodyPost_ret (v := .agg #[.int .u64 a, .int .u64 b, .int .u64 c, .int .u64 d, .int .u64 e]) (by simp [results, Tryz.results35, go_sem]) rfl ⟨rfl, bel_alloc (bel_alloc (Below.refl _ _) _) _⟩

set_option maxHeartbeats 800000 in
theorem newHead_calls (n : Int) (w : World) (h0 : 0 ≤ n) (h1 : n < 4611686018427387904) :
    Calls Tryz.prog 13 #[.int .u64 n] w fun e' w' => e' = .returned (.agg #[.int .u64 0, .int .u64 0, .int .u64 51, .int .u64 n, .int .u64 (51 + n)]) ∧ Below w.heap.size w w' := by
  go_enter Tryz.func13, Tryz.ntmps13
  go_wp2
  exact bodyPost_ret (v := .agg #[.int .u64 0, .int .u64 0, .int .u64 51, .int .u64 n, .int .u64 (51 + n)]) (by simp [results, Tryz.results13, go_sem]) rfl ⟨rfl, bel_alloc (Below.refl _ _) _⟩

set_option maxHeartbeats 800000 in
theorem newRdr_calls (ga n c : Nat) (w : World) :
    Calls Tryz.prog 41 #[.slice (some ⟨ga, 0, none⟩) n c] w fun e' w' => e' = .returned (.pointer (some ⟨w.heap.size, 0, none⟩)) ∧ w' = w.alloc (.cells #[.slice (some ⟨ga, 0, none⟩) n c, .int .i64 0, .int .i64 (-1)] 139) := by
  go_enter Tryz.func41, Tryz.ntmps41
  go_wp2
  go_ret
  exact ⟨rfl, rfl⟩

/-- What impl.C2Read hands back of a text of 40 bytes or more. -/
def C2End (bs : List UInt8) (e : Ending) : Prop :=
  if hdSound (leAt 16 bs) (leAt 24 bs) (leAt 32 bs) then e = .returned (.tuple #[.agg #[.int .u64 (leAt 0 bs), .int .u64 (leAt 8 bs), .int .u64 (leAt 16 bs), .int .u64 (leAt 24 bs), .int .u64 (leAt 32 bs)], .int .i64 40, .bool true])
  else e = .returned (.tuple #[.agg #[.int .u64 0, .int .u64 0, .int .u64 0, .int .u64 0, .int .u64 0], .int .i64 0, .bool false])

























































































end Go.Proofs.YtkcpgcaccgahaaaGreatDoor
