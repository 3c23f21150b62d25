/- The walks of (Header).WriteTo and impl.C2Bytes. -/
import Derived.Test.YtdppnlomhlnbkaaC2W
namespace Go.Proofs.Ytdppnlomhlnbkaa
open Go.RowKit

/-- A header's 40 bytes. -/
def hdB (a b c d e : Nat) : List UInt8 := Lib.leBytes 8 a ++ Lib.leBytes 8 b ++ Lib.leBytes 8 c ++ Lib.leBytes 8 d ++ Lib.leBytes 8 e

set_option maxHeartbeats 4000000 in
set_option maxRecDepth 100000 in
/-- (Header).WriteTo. -/
theorem hdWrite_calls (B b hi lo off size idx : Nat) (xs : List UInt8) (w : World) (h : Buf B b xs w) (hBw : B ≤ w.heap.size) (h1 : hi < 2 ^ 64) (h2 : lo < 2 ^ 64) (h3 : off < 2 ^ 64) (h4 : size < 2 ^ 64) (h5 : idx < 2 ^ 64) (hl : xs.length ≤ 900) :
    Calls Try.prog 12 #[hdV hi lo off size idx, .iface 45 (.pointer (some ⟨b, 0, none⟩))] w fun e w' => e = .returned (.tuple #[.int .i64 40, .nilIface]) ∧ Buf B b (xs ++ (Lib.leBytes 8 hi ++ Lib.leBytes 8 lo) ++ (Lib.leBytes 8 off ++ Lib.leBytes 8 size ++ Lib.leBytes 8 idx)) w' ∧ Below B w w' ∧ Beside b w w' := by
  have hmk : ∀ W : World, (Instr.makeSlice 36 (.int .i64 24) (.int .i64 24)).run Try.prog W = .ok (.slice (some ⟨W.heap.size, 0, none⟩) 24 24) (W.alloc (.cells (zeros 24) 5)) := fun W => mk_bytes 36 Try.underlying36 24 (by omega) W
  have HL := Kp.mk (And.intro h.lt hl)
  have HV := Kp.mk (And.intro h3 (And.intro h4 h5))
  have HC := Kp.mk (fun ob => chWrite_calls B b hi lo xs (w.alloc ob) (h.below (bel_alloc (Below.refl _ _) ob)) (by have := (bel_alloc (Below.refl w.heap.size w) ob).size; omega) h1 h2 (by omega))
  have HBw := Kp.mk hBw
  clear h hBw h1 h2 h3 h4 h5 hl
  unfold hdV
  go_enter Try.func12, Try.ntmps12
  go_wp2_with fail
  refine (HC.out _).mono ?_
  rintro e w1 ⟨rfl, hbf, hB1, hO1⟩
  have hbx := Beside.blk hO1 (k := w.heap.size) (blk_new (Below.refl _ _)) (by have := HL.out.1; omega) (by decide)
  have HBF := Kp.mk hbf
  have HB1 := Kp.mk (((bel_alloc (Below.refl w.heap.size w) _).mono HBw.out).trans hB1)
  have HO1 := Kp.mk (Lib.OthersKept.trans (beside_below (b := b) (bel_alloc (Below.refl w.heap.size w) _)) hO1)
  have HBX1 := Kp.mk hbx
  clear hbf hB1 hO1 hbx HC
  go_wp2_with fail
  generalize hW : w1.alloc _ = W
  have hgd : W.heap[w1.heap.size]? = some (.cells (zeros 24) 5 (0, 0)) := by rw [← hW]; exact blk_new (Below.refl _ _)
  have hbw : Below w1.heap.size w1 W := by rw [← hW]; exact bel_alloc (Below.refl _ _) _
  have HBX := Kp.mk (blk_keep HBX1.out hbw)
  have HBW := Kp.mk hbw
  obtain ⟨gd, hgde⟩ : ∃ gd, gd = w1.heap.size := ⟨_, rfl⟩
  have HGW : Kp (w1.heap.size ≤ gd ∧ w.heap.size < gd) := ⟨by omega, by have := (Array.getElem?_eq_some_iff.1 HBX1.out).1; omega⟩
  rw [← hgde] at hgd ⊢
  have HGD := Kp.mk hgd
  clear hW hgd hbw hmk hgde HBX1
  refine wp_region_grow (by kernel_rfl) 5 (by decide) (apart_of (by kernel_rfl)) (by kernel_rfl) (puR gd 24 0 8 24 w.heap.size 2 off) (fun _ _ _ _ => True) (fun _ _ _ _ h _ => by unfold puR at *; exact h) ?_ ?_
  · intro j hj o ho vs w5 hb hpre
    have hbx := blk_keep HBX.out (bel_then (bel_drew (Below.refl _ _)) hb)
    rcases j with _ | _ | _ | _ | _ | j
    · obtain rfl := Option.some.inj ho
      simp only [canon, List.range, List.range.loop, List.foldl]
      go_simp
      exact ⟨rfl, Below.refl _ _⟩
    · obtain rfl := Option.some.inj ho
      simp only [canon, List.range, List.range.loop, List.foldl]
      go_simp
      exact ⟨rfl, Below.refl _ _⟩
    · obtain rfl := Option.some.inj ho
      have e1 : vs 1 = _ := hpre 1 (by decide) rfl
      have hcut := cut_lo 36 Try.underlying36 gd 24 8 (by omega)
      simp only [canon, List.range, List.range.loop, List.foldl]
      go_simp
      exact ⟨rfl, Below.refl _ _⟩
    · obtain rfl := Option.some.inj ho
      simp only [canon, List.range, List.range.loop, List.foldl]
      go_simp
      exact ⟨rfl, Below.refl _ _⟩
    · obtain rfl := Option.some.inj ho
      have e3 : vs 3 = _ := hpre 3 (by decide) rfl
      have hcc := blk_cell hbx 2
      simp only [canon, List.range, List.range.loop, List.foldl]
      go_simp
      exact ⟨rfl, Below.refl _ _⟩
    · omega
  · intro vs w5 hb hr _
    have e0 : vs 0 = _ := hr 0 (by omega)
    have e2 : vs 2 = _ := hr 2 (by omega)
    have e4 : vs 4 = _ := hr 4 (by omega)
    have hb' := bel_then (bel_drew (Below.refl W.heap.size W)) hb
    simp only [canon, List.range, List.range.loop, List.foldl]
    refine wpAny_last 5 (by kernel_rfl) ?_
    refine wpOp_go rfl rfl ?_
    go_simp
    refine (put64_calls gd 0 8 24 off HV.out.1 w5 (by omega) _ (blk_keep HGD.out hb') (by simp only [zeros_size]; omega)).mono ?_
    rintro e w7 ⟨rfl, hg, hs, hf⟩
    have HB7 := Kp.mk (HBW.out.trans ((hb'.mono (by have := HBW.out.size; omega)).trans (hf w1.heap.size HGW.out.1)))
    have HX7 := Kp.mk (((hf gd (Nat.le_refl _)).block w.heap.size HGW.out.2).trans (blk_keep HBX.out hb'))
    have HG7 := Kp.mk hg
    refine wpAny_none (by kernel_rfl) ?_ _
    clear hb hr hb' hg hs hf HBX HGD HBW e0 e2 e4
    go_wp2_with fail
    refine wp_region_grow (by kernel_rfl) 5 (by decide) (apart_of (by kernel_rfl)) (by kernel_rfl) (puR gd 24 8 8 16 w.heap.size 3 size) (fun _ _ _ _ => True) (fun _ _ _ _ h _ => by unfold puR at *; exact h) ?_ ?_
    · intro j hj o ho vs w5 hb hpre
      have hbx := blk_keep HX7.out (bel_then (bel_drew (Below.refl _ _)) hb)
      rcases j with _ | _ | _ | _ | _ | j
      · obtain rfl := Option.some.inj ho
        simp only [canon, List.range, List.range.loop, List.foldl]
        go_simp
        exact ⟨rfl, Below.refl _ _⟩
      · obtain rfl := Option.some.inj ho
        simp only [canon, List.range, List.range.loop, List.foldl]
        go_simp
        exact ⟨rfl, Below.refl _ _⟩
      · obtain rfl := Option.some.inj ho
        have e1 : vs 1 = _ := hpre 1 (by decide) rfl
        have hcut := cut_mid 36 Try.underlying36 gd 24 8 16 (by omega) (by omega)
        simp only [canon, List.range, List.range.loop, List.foldl]
        go_simp
        exact ⟨rfl, Below.refl _ _⟩
      · obtain rfl := Option.some.inj ho
        simp only [canon, List.range, List.range.loop, List.foldl]
        go_simp
        exact ⟨rfl, Below.refl _ _⟩
      · obtain rfl := Option.some.inj ho
        have e3 : vs 3 = _ := hpre 3 (by decide) rfl
        have hcc := blk_cell hbx 3
        simp only [canon, List.range, List.range.loop, List.foldl]
        go_simp
        exact ⟨rfl, Below.refl _ _⟩
      · omega
    · intro vs w5 hb hr _
      have e0 : vs 0 = _ := hr 0 (by omega)
      have e2 : vs 2 = _ := hr 2 (by omega)
      have e4 : vs 4 = _ := hr 4 (by omega)
      have hb' := bel_then (bel_drew (Below.refl w7.heap.size w7)) hb
      simp only [canon, List.range, List.range.loop, List.foldl]
      refine wpAny_last 5 (by kernel_rfl) ?_
      refine wpOp_go rfl rfl ?_
      go_simp
      refine (put64_calls gd 8 8 16 size HV.out.2.1 w5 (by omega) _ (blk_keep HG7.out hb') (by simp only [putArr_size, zeros_size]; omega)).mono ?_
      rintro e w8 ⟨rfl, hg, hs, hf⟩
      have HB8 := Kp.mk (HB7.out.trans ((hb'.mono (by have := HB7.out.size; omega)).trans (hf w1.heap.size HGW.out.1)))
      have HX8 := Kp.mk (((hf gd (Nat.le_refl _)).block w.heap.size HGW.out.2).trans (blk_keep HX7.out hb'))
      have HG8 := Kp.mk hg
      refine wpAny_none (by kernel_rfl) ?_ _
      clear hb hr hb' hg hs hf HX7 HG7 HB7 e0 e2 e4
      go_wp2_with fail
      refine wp_region_grow (by kernel_rfl) 5 (by decide) (apart_of (by kernel_rfl)) (by kernel_rfl) (puR gd 24 16 8 8 w.heap.size 4 idx) (fun _ _ _ _ => True) (fun _ _ _ _ h _ => by unfold puR at *; exact h) ?_ ?_
      · intro j hj o ho vs w5 hb hpre
        have hbx := blk_keep HX8.out (bel_then (bel_drew (Below.refl _ _)) hb)
        rcases j with _ | _ | _ | _ | _ | j
        · obtain rfl := Option.some.inj ho
          simp only [canon, List.range, List.range.loop, List.foldl]
          go_simp
          exact ⟨rfl, Below.refl _ _⟩
        · obtain rfl := Option.some.inj ho
          simp only [canon, List.range, List.range.loop, List.foldl]
          go_simp
          exact ⟨rfl, Below.refl _ _⟩
        · obtain rfl := Option.some.inj ho
          have e1 : vs 1 = _ := hpre 1 (by decide) rfl
          have hcut := cut_hi 36 Try.underlying36 gd 24 16 (by omega)
          simp only [canon, List.range, List.range.loop, List.foldl]
          go_simp
          exact ⟨rfl, Below.refl _ _⟩
        · obtain rfl := Option.some.inj ho
          simp only [canon, List.range, List.range.loop, List.foldl]
          go_simp
          exact ⟨rfl, Below.refl _ _⟩
        · obtain rfl := Option.some.inj ho
          have e3 : vs 3 = _ := hpre 3 (by decide) rfl
          have hcc := blk_cell hbx 4
          simp only [canon, List.range, List.range.loop, List.foldl]
          go_simp
          exact ⟨rfl, Below.refl _ _⟩
        · omega
      · intro vs w5 hb hr _
        have e0 : vs 0 = _ := hr 0 (by omega)
        have e2 : vs 2 = _ := hr 2 (by omega)
        have e4 : vs 4 = _ := hr 4 (by omega)
        have hb' := bel_then (bel_drew (Below.refl w8.heap.size w8)) hb
        simp only [canon, List.range, List.range.loop, List.foldl]
        refine wpAny_last 5 (by kernel_rfl) ?_
        refine wpOp_go rfl rfl ?_
        go_simp
        refine (put64_calls gd 16 8 8 idx HV.out.2.2 w5 (by omega) _ (blk_keep HG8.out hb') (by simp only [putArr_size, zeros_size]; omega)).mono ?_
        rintro e w9 ⟨rfl, hg, hs, hf⟩
        have HB9 := Kp.mk (HB8.out.trans ((hb'.mono (by have := HB8.out.size; omega)).trans (hf w1.heap.size HGW.out.1)))
        have HX9 := Kp.mk (((hf gd (Nat.le_refl _)).block w.heap.size HGW.out.2).trans (blk_keep HX8.out hb'))
        have HG9 := Kp.mk hg
        refine wpAny_none (by kernel_rfl) ?_ _
        clear hb hr hb' hg hs hf HX8 HG8 HB8 e0 e2 e4
        have hrd : RdB w9 (some ⟨gd, 0, none⟩) 24 24 (Lib.leBytes 8 off ++ Lib.leBytes 8 size ++ Lib.leBytes 8 idx) := by
          have := rd_of_blk (bs := Lib.leBytes 8 off ++ Lib.leBytes 8 size ++ Lib.leBytes 8 idx) HG9.out (put_three off size idx) (by rw [List.length_append, List.length_append, Lib.leBytes_length, Lib.leBytes_length, Lib.leBytes_length]; omega)
          rw [List.length_append, List.length_append, Lib.leBytes_length, Lib.leBytes_length, Lib.leBytes_length] at this
          exact this
        have HWr := Kp.mk (bufWrite_calls B b _ gd 0 24 24 _ w9 (HBF.out.below HB9.out) hrd (by omega) (by have := HL.out.1; have := HGW.out; omega) (by have := HB1.out.size; have := HB9.out.size; have := HBw.out; omega) (by rw [List.length_append, List.length_append, Lib.leBytes_length, Lib.leBytes_length]; have := HL.out.2; omega))
        have hm : ∀ W, (method 182 45 (.pointer (some ⟨b, 0, none⟩)) "Write").run Try.prog W = .ok (37, .pointer (some ⟨b, 0, none⟩)) W := fun _ => by kernel_rfl
        clear hrd HG9 HX9
        go_wp2_with fail
        refine HWr.out.mono ?_
        rintro e w10 ⟨rfl, hbf, hB10, hO10⟩
        have HE := Kp.mk (And.intro hbf (And.intro (HB1.out.trans ((HB9.out.mono (by have := HB1.out.size; have := HBw.out; omega)).trans hB10)) (Lib.OthersKept.trans (HO1.out.below HB9.out) hO10)))
        clear hbf hB10 hO10 HWr HB9
        go_wp2_with fail
        go_ret2
        exact ⟨rfl, HE.out.1, HE.out.2.1, HE.out.2.2⟩

theorem hdB_eq (a b c d e : Nat) : ([] : List UInt8) ++ (Lib.leBytes 8 a ++ Lib.leBytes 8 b) ++ (Lib.leBytes 8 c ++ Lib.leBytes 8 d ++ Lib.leBytes 8 e) = hdB a b c d e := by simp [hdB]

set_option maxHeartbeats 4000000 in
set_option maxRecDepth 100000 in
/-- impl.C2Bytes. -/
theorem c2Bytes_calls (hi lo off size idx : Nat) (w : World) (h1 : hi < 2 ^ 64) (h2 : lo < 2 ^ 64) (h3 : off < 2 ^ 64) (h4 : size < 2 ^ 64) (h5 : idx < 2 ^ 64) :
    Calls Try.prog 5 #[hdV hi lo off size idx] w fun e w' => e = .returned (.string (strB (hdB hi lo off size idx))) ∧ Below w.heap.size w w' := by
  have HI := Kp.mk (fun w => headIn_calls hi lo off size idx w)
  have HV := Kp.mk (And.intro h1 (And.intro h2 (And.intro h3 (And.intro h4 h5))))
  clear h1 h2 h3 h4 h5
  unfold hdV at *
  go_enter Try.func5, Try.ntmps5
  go_wp2_with fail
  refine (HI.out _).mono ?_
  rintro e w1 ⟨rfl, hb⟩
  generalize hw0 : w.alloc _ = w0 at hb
  have hb0 : Below w.heap.size w w0 := by rw [← hw0]; exact bel_alloc (Below.refl _ _) _
  have hs0 : w0.heap.size = w.heap.size + 1 := by rw [← hw0]; simp [World.alloc, -World.alloc_eq]
  have hbf0 := Lib.fresh_isBuffer 40 5 w0
  rw [hs0] at hbf0
  have hbf : Buf (w.heap.size + 1) (w.heap.size + 1) [] (w0.alloc (.cells #[.slice none 0 0, .int .i64 0, .int .i8 0] 40)) := hbf0
  have hb1 := bel_new hb
  have HW := Kp.mk (hdWrite_calls (w.heap.size + 1) (w.heap.size + 1) hi lo off size idx [] w1 (hbf.below hb) (by have := hb1.size; omega) HV.out.1 HV.out.2.1 HV.out.2.2.1 HV.out.2.2.2.1 HV.out.2.2.2.2 (by simp))
  have HB1 := Kp.mk (hb0.trans (hb1.mono hb0.size))
  unfold hdV at HW
  rw [hdB_eq] at HW
  clear hb hw0 hb0 hs0 hbf0 hbf hb1 HI
  go_wp2_with fail
  refine HW.out.mono ?_
  rintro e w2 ⟨rfl, hbf, hB2, _⟩
  have HS := Kp.mk (Try.Buffer_String _ _ _ w2 hbf)
  have HB2 := Kp.mk (HB1.out.trans (hB2.mono (by omega)))
  clear hbf hB2 HW HB1
  go_wp2_with fail
  refine HS.out.mono ?_
  rintro e w3 ⟨rfl, n, rfl⟩
  go_wp2_with fail
  go_ret
  exact ⟨rfl, bel_drewN HB2.out n⟩

end Go.Proofs.Ytdppnlomhlnbkaa
