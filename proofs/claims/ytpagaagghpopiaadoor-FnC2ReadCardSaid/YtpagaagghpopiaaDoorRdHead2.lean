/- The walk of (*Header).ReadFrom. -/
import Derived.Test.YtpagaagghpopiaaDoorRdHead
import Derived.Test.YtpagaagghpopiaaDoorMhRd
namespace Go.Proofs.YtpagaagghpopiaaDoor
open Go.RowKit

/-- Which headers are let in. -/
def hdSound (off size idx : Nat) : Prop := 51 ≤ off ∧ off < 9223372036854775808 ∧ 0 < size ∧ size < 9223372036854775808 ∧ idx < 9223372036854775808
instance (off size idx : Nat) : Decidable (hdSound off size idx) := by unfold hdSound; infer_instance

/-- What (*Header).ReadFrom leaves. -/
def HrEnd (h : Nat) (hi lo off size idx : Nat) (e : Ending) (w' : World) : Prop :=
  if hdSound off size idx then e = .returned (.tuple #[.int .i64 40, .nilIface]) ∧ Hd5t 52 w' h hi lo off size idx
  else ∃ v T u, e = .returned (.tuple #[v, .iface T u])
theorem hrEnd_bad {h hi lo off size idx : Nat} {v u : Value} {T : TypeId} {w' : World} (hs : ¬ hdSound off size idx) : HrEnd h hi lo off size idx (.returned (.tuple #[v, .iface T u])) w' := by
  unfold HrEnd; rw [if_neg hs]; exact ⟨v, T, u, rfl⟩
theorem hrEnd_ok {h hi lo off size idx : Nat} {w' : World} (hs : hdSound off size idx) (hh : Hd5t 52 w' h hi lo off size idx) : HrEnd h hi lo off size idx (.returned (.tuple #[.int .i64 40, .nilIface])) w' := by
  unfold HrEnd; rw [if_pos hs]; exact ⟨rfl, hh⟩
theorem leNat_lt' : ∀ l : List UInt8, Lib.leNat l < 256 ^ l.length
  | [] => by simp [Lib.leNat]
  | b :: r => by
    have h1 := leNat_lt' r
    have h2 := b.toNat_lt
    rw [Lib.leNat, List.length_cons, Nat.pow_succ]
    omega
theorem leAt_lt (k : Nat) (bs : List UInt8) : leAt k bs < 2 ^ 64 := by
  unfold leAt
  refine Nat.lt_of_lt_of_le (leNat_lt' _) ?_
  rw [show (2 : Nat) ^ 64 = 256 ^ 8 by decide]
  exact Nat.pow_le_pow_right (by decide) (by rw [List.length_take]; omega)

theorem w64_lo {x : Nat} (h : x < 9223372036854775808) : wrap64 (x : Int) = x := by unfold wrap64; omega
theorem w64_hi {x : Nat} (h : 9223372036854775808 ≤ x) (h2 : x < 2 ^ 64) : wrap64 (x : Int) < 0 := by unfold wrap64; omega
/-- What operations 0 to 3 of 'x := LittleEndian.Uint64(buf[lo:lo+8])' leave. -/
def hrR (gd lo x : Nat) (j : Nat) (v : Value) (_ : World) : Prop :=
  match j with
  | 0 => v = .agg #[]
  | 1 => v = .slice (some ⟨gd, 0, none⟩) 24 24
  | 2 => v = .slice (some ⟨gd, lo, none⟩) 8 (24 - lo)
  | 3 => v = .int .u64 x
  | _ => True

set_option maxHeartbeats 8000000 in
set_option maxRecDepth 100000 in
/-- (*Header).ReadFrom, where 40 bytes are there. -/
theorem hdRead_calls (h g ga n c : Nat) (q : Int) (a b x d e : Nat) (bs : List UInt8) (w : World) (hh : Hd5t 52 w h a b x d e) (hg : RdrAt w g ga n c 0 q) (hr : RdB w (some ⟨ga, 0, none⟩) n c bs) (hhg : h < ga) (hag : ga < g) (hmi : 40 ≤ n) (hn : n ≤ 4611686018427387904) :
    Calls Tryd.prog 25 #[.pointer (some ⟨h, 0, none⟩), .iface 57 (.pointer (some ⟨g, 0, none⟩))] w fun e' w' => HrEnd h (leAt 0 bs) (leAt 8 bs) (leAt 16 bs) (leAt 24 bs) (leAt 32 bs) e' w' ∧ Below h w w' := by
  have HC := Kp.mk (chRead_calls h g ga n c 0 q a b x d e bs w hh hg hr hhg hag (by omega) hn)
  have hmk : ∀ W : World, (Instr.makeSlice 59 (.int .i64 24) (.int .i64 24)).run Tryd.prog W = .ok (.slice (some ⟨W.heap.size, 0, none⟩) 24 24) (W.alloc (.cells (zeros 24) 5)) := fun W => mk_bytes 59 Tryd.underlying59 24 (by omega) W
  have HX := Kp.mk (And.intro hhg (And.intro hag (And.intro hmi hn)))
  clear hh hg hr hhg hag hmi hn
  go_enter Tryd.func25, Tryd.ntmps25
  go_wp2_with fail
  refine HC.out.mono ?_
  rintro e1 w1 ⟨⟨rfl, hg1, hr1, hh1⟩, hb1⟩
  have HG1 := Kp.mk (And.intro hg1 (And.intro hr1 (And.intro hh1 hb1)))
  clear hg1 hr1 hh1 hb1 HC
  go_wp2_with fail
  have hlt : g < w1.heap.size := (Array.getElem?_eq_some_iff.1 HG1.out.1).1
  generalize hW : w1.alloc _ = W
  have hbW : Below w1.heap.size w1 W := by rw [← hW]; exact bel_alloc (Below.refl _ _) _
  have hdW : W.heap[w1.heap.size]? = some (.cells (zeros 24) 5 (0, 0)) := by rw [← hW]; simp [World.alloc, -World.alloc_eq]
  have hRF := readFull_calls g ga w1.heap.size n c 24 16 (-1) bs W (blk_keep HG1.out.1 hbW) (HG1.out.2.1.below hbW) HX.out.2.1 hlt hdW (by omega) HX.out.2.2.1 HX.out.2.2.2
  refine hRF.mono ?_
  rintro e1 w2 ⟨⟨rfl, h1, h2⟩, h3⟩
  have hb2 : Below g w1 w2 := (hbW.mono (by omega)).trans h3
  have HH2 : Kp (Hd5t 52 w2 h (leAt 0 bs) (leAt 8 bs) x d e) := ⟨(hb2.block h (by have := HX.out; omega)).trans HG1.out.2.2.1⟩
  have HB2 : Kp (Below h w w2) := ⟨HG1.out.2.2.2.trans (hb2.mono (by have := HX.out; omega))⟩
  have HK : Kp (RdB w2 (some ⟨w1.heap.size, 0, none⟩) 24 24 ((bs.drop 16).take 24)) := ⟨h2⟩
  obtain ⟨gd, hgd⟩ : ∃ gd, gd = w1.heap.size := ⟨_, rfl⟩
  rw [← hgd] at HK hlt ⊢
  clear h1 h2 h3 hb2 hRF hW hbW hdW hmk HG1 hgd
  go_wp2_with fail
  refine wp_region_grow (by kernel_rfl) 4 (by decide) (apart_of (by kernel_rfl)) (by kernel_rfl) (hrR gd 0 (leAt 16 bs)) (fun _ _ _ _ => True) (fun _ _ _ _ h _ => by unfold hrR at *; exact h) ?_ ?_
  · intro j hj o ho vs w5 hb hpre
    rcases j with _ | _ | _ | _ | j
    · obtain rfl := Option.some.inj ho
      simp only [canon, List.range, List.range.loop, List.foldl]
      go_simp
      exact ⟨rfl, Below.refl _ _⟩
    · obtain rfl := Option.some.inj ho
      simp only [canon, List.range, List.range.loop, List.foldl]
      go_simp
      exact ⟨rfl, Below.refl _ _⟩
    · obtain rfl := Option.some.inj ho
      have e1 : vs 1 = _ := hpre 1 (by decide) rfl
      simp only [canon, List.range, List.range.loop, List.foldl]
      go_simp
      exact ⟨rfl, Below.refl _ _⟩
    · obtain rfl := Option.some.inj ho
      have e0 : vs 0 = _ := hpre 0 (by decide) rfl
      have e2 : vs 2 = _ := hpre 2 (by decide) rfl
      simp only [canon, List.range, List.range.loop, List.foldl]
      go_simp
      refine (le_part (i := 16) (HK.out.below (bel_then (bel_drew (Below.refl _ _)) hb)) (lo := 0) (by omega) _ rfl).mono ?_
      rintro e2 w6 ⟨rfl, hb3⟩
      exact ⟨rfl, hb3⟩
    · omega
  · intro vs w3 hb hr hd
    have e3 : vs 3 = _ := hr 3 (by omega)
    have hb' := bel_then (bel_drew (Below.refl w2.heap.size w2)) hb
    have HK3 := Kp.mk (HK.out.below hb')
    have HH3 := Kp.mk (show Hd5t 52 w3 h (leAt 0 bs) (leAt 8 bs) x d e from blk_keep HH2.out hb')
    have HB3 := Kp.mk (HB2.out.trans (hb'.mono (by have := (Array.getElem?_eq_some_iff.1 HH2.out).1; omega)))
    clear HK HH2 HB2 hb' hb
    simp only [canon, List.range, List.range.loop, List.foldl]
    refine wpAny_last 4 (by kernel_rfl) ?_
    refine wpOp_go rfl rfl ?_
    go_simp
    refine wpAny_none (by kernel_rfl) ?_ _
    clear hr hd
    go_wp2_with fail
    refine wp_region_grow (by kernel_rfl) 4 (by decide) (apart_of (by kernel_rfl)) (by kernel_rfl) (hrR gd 8 (leAt 24 bs)) (fun _ _ _ _ => True) (fun _ _ _ _ h _ => by unfold hrR at *; exact h) ?_ ?_
    · intro j hj o ho vs w5 hb hpre
      rcases j with _ | _ | _ | _ | j
      · obtain rfl := Option.some.inj ho
        simp only [canon, List.range, List.range.loop, List.foldl]
        go_simp
        exact ⟨rfl, Below.refl _ _⟩
      · obtain rfl := Option.some.inj ho
        simp only [canon, List.range, List.range.loop, List.foldl]
        go_simp
        exact ⟨rfl, Below.refl _ _⟩
      · obtain rfl := Option.some.inj ho
        have e1 : vs 1 = _ := hpre 1 (by decide) rfl
        simp only [canon, List.range, List.range.loop, List.foldl]
        go_simp
        exact ⟨rfl, Below.refl _ _⟩
      · obtain rfl := Option.some.inj ho
        have e0 : vs 0 = _ := hpre 0 (by decide) rfl
        have e2 : vs 2 = _ := hpre 2 (by decide) rfl
        simp only [canon, List.range, List.range.loop, List.foldl]
        go_simp
        refine (le_part (i := 16) (HK3.out.below (bel_then (bel_drew (Below.refl _ _)) hb)) (lo := 8) (by omega) _ rfl).mono ?_
        rintro e2 w6 ⟨rfl, hb3⟩
        exact ⟨rfl, hb3⟩
      · omega
    · intro vs w4 hb hr hd
      have e3 : vs 3 = _ := hr 3 (by omega)
      have hb' := bel_then (bel_drew (Below.refl w3.heap.size w3)) hb
      have HK4 := Kp.mk (HK3.out.below hb')
      have HH4 := Kp.mk (show Hd5t 52 w4 h (leAt 0 bs) (leAt 8 bs) x d e from blk_keep HH3.out hb')
      have HB4 := Kp.mk (HB3.out.trans (hb'.mono (by have := (Array.getElem?_eq_some_iff.1 HH3.out).1; omega)))
      clear HK3 HH3 HB3 hb' hb
      simp only [canon, List.range, List.range.loop, List.foldl]
      refine wpAny_last 4 (by kernel_rfl) ?_
      refine wpOp_go rfl rfl ?_
      go_simp
      refine wpAny_none (by kernel_rfl) ?_ _
      clear hr hd
      go_wp2_with fail
      refine wp_region_grow (by kernel_rfl) 4 (by decide) (apart_of (by kernel_rfl)) (by kernel_rfl) (hrR gd 16 (leAt 32 bs)) (fun _ _ _ _ => True) (fun _ _ _ _ h _ => by unfold hrR at *; exact h) ?_ ?_
      · intro j hj o ho vs w5 hb hpre
        rcases j with _ | _ | _ | _ | j
        · obtain rfl := Option.some.inj ho
          simp only [canon, List.range, List.range.loop, List.foldl]
          go_simp
          exact ⟨rfl, Below.refl _ _⟩
        · obtain rfl := Option.some.inj ho
          simp only [canon, List.range, List.range.loop, List.foldl]
          go_simp
          exact ⟨rfl, Below.refl _ _⟩
        · obtain rfl := Option.some.inj ho
          have e1 : vs 1 = _ := hpre 1 (by decide) rfl
          simp only [canon, List.range, List.range.loop, List.foldl]
          go_simp
          exact ⟨rfl, Below.refl _ _⟩
        · obtain rfl := Option.some.inj ho
          have e0 : vs 0 = _ := hpre 0 (by decide) rfl
          have e2 : vs 2 = _ := hpre 2 (by decide) rfl
          simp only [canon, List.range, List.range.loop, List.foldl]
          go_simp
          refine (le_part (i := 16) (HK4.out.below (bel_then (bel_drew (Below.refl _ _)) hb)) (lo := 16) (by omega) _ rfl).mono ?_
          rintro e2 w6 ⟨rfl, hb3⟩
          exact ⟨rfl, hb3⟩
        · omega
      · intro vs w5 hb hr hd
        have e3 : vs 3 = _ := hr 3 (by omega)
        have hb' := bel_then (bel_drew (Below.refl w4.heap.size w4)) hb
        have HK5 := Kp.mk (HK4.out.below hb')
        have HH5 := Kp.mk (show Hd5t 52 w5 h (leAt 0 bs) (leAt 8 bs) x d e from blk_keep HH4.out hb')
        have HB5 := Kp.mk (HB4.out.trans (hb'.mono (by have := (Array.getElem?_eq_some_iff.1 HH4.out).1; omega)))
        clear HK4 HH4 HB4 hb' hb
        simp only [canon, List.range, List.range.loop, List.foldl]
        refine wpAny_last 4 (by kernel_rfl) ?_
        refine wpOp_go rfl rfl ?_
        go_simp
        refine wpAny_none (by kernel_rfl) ?_ _
        clear hr hd
        have l1 := leAt_lt 16 bs
        have l2 := leAt_lt 24 bs
        have l3 := leAt_lt 32 bs
        by_cases s1 : 51 ≤ leAt 16 bs ∧ leAt 16 bs < 9223372036854775808
        · by_cases s2 : 0 < leAt 24 bs ∧ leAt 24 bs < 9223372036854775808
          · by_cases s3 : leAt 32 bs < 9223372036854775808
            · have SND : Kp (hdSound (leAt 16 bs) (leAt 24 bs) (leAt 32 bs)) := ⟨⟨s1.1, s1.2, s2.1, s2.2, s3⟩⟩
              have q1 : decide (wrap64 (leAt 16 bs : Int) < 51) = false := decide_eq_false (by rw [w64_lo s1.2]; omega)
              have q2 : decide (wrap64 (leAt 24 bs : Int) ≤ 0) = false := decide_eq_false (by rw [w64_lo s2.2]; omega)
              have q3 : decide (wrap64 (leAt 32 bs : Int) < 0) = false := decide_eq_false (by rw [w64_lo s3]; omega)
              clear l1 l2 l3 s1 s2 s3
              have c2 := blk_cell HH5.out 2
              have c3 := blk_cell HH5.out 3
              have c4 := blk_cell HH5.out 4
              have f2 := blk_frozen HH5.out 2
              have f3 := blk_frozen HH5.out 3
              have f4 := blk_frozen HH5.out 4
              have HE := Kp.mk (And.intro (hd_set4 (hd_set3 (hd_set2 HH5.out (leAt 16 bs)) (leAt 24 bs)) (leAt 32 bs)) (belB_set (B := h) (p := ⟨h, 4, none⟩) (belB_set (B := h) (p := ⟨h, 3, none⟩) (belB_set (B := h) (p := ⟨h, 2, none⟩) HB5.out (Nat.le_refl _) (.int .u64 (leAt 16 bs))) (Nat.le_refl _) (.int .u64 (leAt 24 bs))) (Nat.le_refl _) (.int .u64 (leAt 32 bs))))
              clear HK5 HH5 HB5
              go_wp2_with fail
              go_ret2
              exact ⟨hrEnd_ok SND.out HE.out.1, HE.out.2⟩
            · have BAD : Kp (¬ hdSound (leAt 16 bs) (leAt 24 bs) (leAt 32 bs)) := ⟨fun hs => s3 hs.2.2.2.2⟩
              have q1 : decide (wrap64 (leAt 16 bs : Int) < 51) = false := decide_eq_false (by rw [w64_lo s1.2]; omega)
              have q2 : decide (wrap64 (leAt 24 bs : Int) ≤ 0) = false := decide_eq_false (by rw [w64_lo s2.2]; omega)
              have q3 : decide (wrap64 (leAt 32 bs : Int) < 0) = true := decide_eq_true (by have := w64_hi (Nat.not_lt.1 s3) l3; omega)
              clear l1 l2 l3 s1 s2 s3
              go_wp2_with fail
              refine (errNew_calls _ _).mono ?_
              rintro e6 w6 ⟨⟨T, v, rfl⟩, hb6⟩
              have HB6 := Kp.mk (HB5.out.trans (hb6.mono (by have := (Array.getElem?_eq_some_iff.1 HH5.out).1; omega)))
              clear hb6
              go_wp2_with fail
              go_ret2
              exact ⟨hrEnd_bad BAD.out, HB6.out⟩
          · have BAD : Kp (¬ hdSound (leAt 16 bs) (leAt 24 bs) (leAt 32 bs)) := ⟨fun hs => s2 ⟨hs.2.2.1, hs.2.2.2.1⟩⟩
            have q1 : decide (wrap64 (leAt 16 bs : Int) < 51) = false := decide_eq_false (by rw [w64_lo s1.2]; omega)
            have q2 : decide (wrap64 (leAt 24 bs : Int) ≤ 0) = true := decide_eq_true (by
              by_cases h63 : leAt 24 bs < 9223372036854775808
              · rw [w64_lo h63]; omega
              · have := w64_hi (Nat.not_lt.1 h63) l2; omega)
            clear l1 l2 l3 s1 s2
            go_wp2_with fail
            refine (errNew_calls _ _).mono ?_
            rintro e6 w6 ⟨⟨T, v, rfl⟩, hb6⟩
            have HB6 := Kp.mk (HB5.out.trans (hb6.mono (by have := (Array.getElem?_eq_some_iff.1 HH5.out).1; omega)))
            clear hb6
            go_wp2_with fail
            go_ret2
            exact ⟨hrEnd_bad BAD.out, HB6.out⟩
        · have BAD : Kp (¬ hdSound (leAt 16 bs) (leAt 24 bs) (leAt 32 bs)) := ⟨fun hs => s1 ⟨hs.1, hs.2.1⟩⟩
          have q1 : decide (wrap64 (leAt 16 bs : Int) < 51) = true := decide_eq_true (by
            by_cases h63 : leAt 16 bs < 9223372036854775808
            · rw [w64_lo h63]; omega
            · have := w64_hi (Nat.not_lt.1 h63) l1; omega)
          clear l1 l2 l3 s1
          go_wp2_with fail
          refine (errNew_calls _ _).mono ?_
          rintro e6 w6 ⟨⟨T, v, rfl⟩, hb6⟩
          have HB6 := Kp.mk (HB5.out.trans (hb6.mono (by have := (Array.getElem?_eq_some_iff.1 HH5.out).1; omega)))
          clear hb6
          go_wp2_with fail
          go_ret2
          exact ⟨hrEnd_bad BAD.out, HB6.out⟩

end Go.Proofs.YtpagaagghpopiaaDoor
