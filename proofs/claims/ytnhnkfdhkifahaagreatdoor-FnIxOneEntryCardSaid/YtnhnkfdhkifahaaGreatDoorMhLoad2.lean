/- The walk of (*index.MultihashIndexSorted).Load of one record. -/
import Derived.Test.YtnhnkfdhkifahaaGreatDoorMhLoad
namespace Go.Proofs.YtnhnkfdhkifahaaGreatDoor
open Go.RowKit
open Go.ChangeMaps (setBlock)

set_option maxHeartbeats 16000000 in
set_option maxRecDepth 100000 in
theorem mhLoad_calls (im gM clkM gi oi ci v codec code off : Nat) (s : ByteArray) (w : World) (him : w.cell? ⟨im, 0, none⟩ = some (.map (some gM))) (hgM : w.heap[gM]? = some (.map #[] clkM)) (hi0 : w.cell? ⟨gi, oi, none⟩ = some (.string (strB (cidB v codec code s)))) (hi1 : w.cell? ⟨gi, oi + 1, none⟩ = some (.int .u64 off)) (h : Tidy v codec code s) (hs : s.size ≤ 1000) (hoff : off < 2 ^ 64) (he : MhErrs w) :
    Calls Tryz.prog 58 #[.pointer (some ⟨im, 0, none⟩), .slice (some ⟨gi, oi, none⟩) 1 ci] w fun e w' => e = .returned .nilIface ∧
      (∃ gI ic gm, w.heap.size ≤ gI ∧ w.heap.size ≤ ic ∧ w.heap.size ≤ gm ∧ w'.heap[gM]? = some (.map #[⟨.int .u64 code, .pointer (some ⟨ic, 0, none⟩), clkM⟩] (clkM + 1)) ∧ w'.cell? ⟨ic, 0, none⟩ = some (.map (some gm)) ∧ w'.cell? ⟨ic, 1, none⟩ = some (.int .u64 code)
        ∧ w'.heap[gm]? = some (.map #[⟨.int .u32 ((s.size + 8 : Nat) : Int), .agg #[.int .u32 ((s.size + 8 : Nat) : Int), .int .u64 1, .slice (some ⟨gI, 0, none⟩) (s.size + 8) (s.size + 8)], 0⟩] (0 + 1)) ∧ RdB w' (some ⟨gI, 0, none⟩) (s.size + 8) (s.size + 8) (bl s ++ Lib.leBytes 8 off)) ∧ Ex (· = gM) w w' := by
  have HWL := Kp.mk (fun ip gm clk0 gi oi ci w hip hgm hi0 hi1 he => mwLoad_calls ip gm clk0 gi oi ci v codec code off s w hip hgm hi0 hi1 h hs hoff he)
  have hlb := bl_length s
  have hmh : mhRead (mhBytes code (bl s)) = some (code, bl s, (mhBytes code (bl s)).length) := by
    have := mhRead_mhBytes (code := code) (d := bl s) [] (by rcases h with ⟨_, _, rfl, _⟩ | ⟨_, _, h⟩ <;> omega) (by omega)
    rwa [List.append_nil] at this
  have hmn : (mhBytes code (bl s)).length ≤ 2147483647 := by
    have a := Lib.uvarint_length64 (x := code) (by rcases h with ⟨_, _, rfl, _⟩ | ⟨_, _, h⟩ <;> omega)
    have b := Lib.uvarint_length64 (x := (bl s).length) (by omega)
    simp only [mhBytes, List.length_append]
    omega
  have HH := Kp.mk (fun w he => tHash_calls v codec code s w h (by omega) he)
  obtain ⟨S, hS⟩ : ∃ S, S = strB (cidB v codec code s) := ⟨_, rfl⟩
  rw [← hS] at HH hi0 HWL
  obtain ⟨n, hn⟩ : ∃ n, n = s.size := ⟨_, rfl⟩
  obtain ⟨ds, hds⟩ : ∃ ds, ds = bl s := ⟨_, rfl⟩
  rw [← hn, ← hds]
  rw [← hn, ← hds] at HWL
  rw [← hds] at HH hmh hmn hlb
  rw [← hn] at hlb hs
  have hgMl := (Array.getElem?_eq_some_iff.1 hgM).1
  have hal := bel_alloc (Below.refl w.heap.size w) (.map #[] 0)
  have HM := Kp.mk (And.intro hmh (And.intro hmn (And.intro hlb (And.intro hs hoff))))
  have HG := Kp.mk (And.intro him (And.intro hgM (And.intro hgMl he)))
  have HDSN := Kp.mk (And.intro hn hds)
  have c0 := cell_bel hal hi0
  have c1 := cell_bel hal hi1
  have HB1 := Kp.mk (bel_alloc hal (.cells #[.string S, .int .u64 off] 48))
  have HA1 := Kp.mk (blk_new (w := w) (o := .map #[] 0) (bel_alloc (Below.refl _ _) (.cells #[.string S, .int .u64 off] 48)))
  have HR1 := Kp.mk (blk_new2 (w := w) (o := .map #[] 0) (o2 := .cells #[.string S, .int .u64 off] 48) (Below.refl _ _))
  clear hmh hmn hlb hs hoff him hgM hgMl he hal hi0 hi1 h hS hn hds
  have hmap := fun (W : World) => run_makeMap_plain (P := Tryz.prog) W 129
  go_enter Tryz.func58, Tryz.ntmps58
  go_wp2_with fail
  clear hmap
  refine wp_loop_rounds 2 ?_
  rw [rounds_succ]
  go_wp2_with fail
  clear c0 c1
  refine (HH.out _ (HG.out.2.2.2.below HB1.out)).mono ?_
  rintro e u2 ⟨⟨A, nh, c, rfl, hr⟩, hb⟩
  have hnh := hr.len
  have HB2 := Kp.mk (bel_then HB1.out hb)
  have HA2 := Kp.mk (blk_keep HA1.out hb)
  have HR2 := Kp.mk (blk_keep HR1.out hb)
  have HD := Kp.mk (decodeP_calls A nh c _ u2 hr (HG.out.2.2.2.below HB2.out) (by have := HM.out.2.1; omega))
  clear hr hb HH HA1 HR1 HB1 hnh
  go_wp2_with fail
  refine HD.out.mono ?_
  rintro e u3 ⟨hu, hb⟩
  unfold DdEnd at hu
  rw [HM.out.1] at hu
  simp only [if_true] at hu
  obtain ⟨gd, A', c', rfl, hgd, hblk, hp⟩ := hu
  have HB3 := Kp.mk (bel_then HB2.out hb)
  have ha3 := blk_keep HA2.out hb
  have HR3 := Kp.mk (blk_keep HR2.out hb)
  have c0 := blk_cell hblk 0
  clear hb hblk hp HD HA2 HR2 HB2 hgd
  have HLN : Kp ((Instr.lookup 129 (.map (some w.heap.size)) (.int .u64 (code : Int)) true).run Tryz.prog u3 = .ok (.tuple #[.slice none 0 0, .bool false]) u3) := ⟨look_none (P := Tryz.prog) Tryz.underlying129 Tryz.underlying22 ha3 _ (zeroRecs u3) true⟩
  have hsz3 := HB3.out.size
  have hl3 := (Array.getElem?_eq_some_iff.1 ha3).1
  have hal3 := bel_alloc (Below.refl u3.heap.size u3) (.cells #[] 48)
  have ha4 := blk_keep ha3 hal3
  have hs4 : (u3.alloc (.cells #[] 48)).heap[u3.heap.size]? = some (.cells #[] 48 (0, 0)) := blk_new (Below.refl _ _)
  obtain ⟨u5, hu5⟩ : ∃ W, W = setBlock (u3.alloc (.cells #[] 48)) w.heap.size (.map #[⟨.int .u64 (code : Int), .slice (some ⟨u3.heap.size, 0, none⟩) 0 0, 0⟩] 1) := ⟨_, rfl⟩
  have HU1 : Kp ((Instr.mapUpdate 129 (.map (some w.heap.size)) (.int .u64 (code : Int)) (.slice (some ⟨u3.heap.size, 0, none⟩) 0 0)).run Tryz.prog (u3.alloc (.cells #[] 48)) = .ok () u5) := ⟨by rw [hu5]; exact upd_none (P := Tryz.prog) Tryz.underlying129 Tryz.underlying22 ha4 _⟩
  have ha5 : u5.heap[w.heap.size]? = some (.map #[⟨.int .u64 (code : Int), .slice (some ⟨u3.heap.size, 0, none⟩) 0 0, 0⟩] 1) := by rw [hu5]; exact set_same _ ha4
  have hs5 : u5.heap[u3.heap.size]? = some (.cells #[] 48 (0, 0)) := by rw [hu5, set_far _ (by omega)]; exact hs4
  have hk5 : Keeps u3 u5 := (keeps_below hal3).trans (by rw [hu5]; exact keeps_map ha4 _)
  have hb5 : Below w.heap.size w u5 := by rw [hu5]; exact bel_setBlock (bel_then HB3.out hal3) (Nat.le_refl _) _
  have hz5 : u5.heap.size = u3.heap.size + 1 := by rw [hu5, set_size]; simp [World.alloc, -World.alloc_eq]
  have hal5 := bel_alloc (Below.refl u5.heap.size u5) (.cells #[.string S, .int .u64 off] 48)
  obtain ⟨ga, cap', u7, hap, hga0, hga1, hsz7, hb67, hbk7⟩ := appRec (u5.alloc (.cells #[.string S, .int .u64 off] 48)) u3.heap.size u5.heap.size off S (blk_keep hs5 hal5) (blk_new (w := u5) (o := .cells #[.string S, .int .u64 off] 48) (Below.refl _ _))
  have hb7 : Below w.heap.size w u7 := (bel_then hb5 hal5).trans (hb67.mono (by omega))
  have ha7 : u7.heap[w.heap.size]? = some (.map #[⟨.int .u64 (code : Int), .slice (some ⟨u3.heap.size, 0, none⟩) 0 0, 0⟩] 1) := by rw [hbk7 _ (by have := hal5.size; omega) (by omega)]; exact blk_keep ha5 hal5
  obtain ⟨u8, hu8⟩ : ∃ W, W = setBlock u7 w.heap.size (.map #[⟨.int .u64 (code : Int), .slice (some ⟨ga, 0, none⟩) 1 cap', 0⟩] 1) := ⟨_, rfl⟩
  have HU2 : Kp ((Instr.mapUpdate 129 (.map (some w.heap.size)) (.int .u64 (code : Int)) (.slice (some ⟨ga, 0, none⟩) 1 cap')).run Tryz.prog u7 = .ok () u8) := ⟨by rw [hu8]; exact upd_one (P := Tryz.prog) Tryz.underlying129 Tryz.underlying22 _ _ 0 ha7⟩
  have ha8 : u8.heap[w.heap.size]? = some (.map #[⟨.int .u64 (code : Int), .slice (some ⟨ga, 0, none⟩) 1 cap', 0⟩] 1) := by rw [hu8]; exact set_same _ ha7
  have hk78 : Keeps u7 u8 := by rw [hu8]; exact keeps_map ha7 _
  have HK8 := Kp.mk (And.intro (hk78.cell hga0) (hk78.cell hga1))
  have hb8 : Below w.heap.size w u8 := by rw [hu8]; exact bel_setBlock hb7 (Nat.le_refl _) _
  have HA8 := Kp.mk (And.intro ha8 hb8)
  have HAP := Kp.mk hap
  have hmk := mkRec0
  have cr50 : u5.cell? ⟨w.heap.size + 1, 0, none⟩ = some (.string S) := hk5.cell (blk_cell HR3.out 0)
  have cr51 : u5.cell? ⟨w.heap.size + 1, 1, none⟩ = some (.int .u64 off) := hk5.cell (blk_cell HR3.out 1)
  clear ha3 hsz3 hl3 hal3 ha4 hs4 hu5 ha5 hs5 hk5 hb5 hz5 hal5 hap hga0 hga1 hsz7 hb67 hbk7 hb7 ha7 hu8 ha8 hk78 hb8
  go_wp2_with (first | (at_lookup; refine wpList_lookup_run _ rfl _ _ _ _ rfl _ _ _ rfl rfl HLN.out ?_) | (at_mapUpdate; refine wpList_mapUpdate_run _ rfl _ _ _ _ rfl _ _ _ _ rfl rfl rfl HU1.out ?_) | (at_mapUpdate; refine wpList_mapUpdate_run _ rfl _ _ _ _ rfl _ _ _ _ rfl rfl rfl HU2.out ?_) | (at_builtin; refine Lib.wpList_append_run _ rfl _ _ _ _ rfl _ _ rfl rfl _ _ HAP.out ?_))
  clear HLN HU1 HU2 HAP hmk cr50 cr51 c0
  obtain ⟨ri, hri⟩ : ∃ r, r = u8.heap.size := ⟨_, rfl⟩
  have HRI : Kp (w.heap.size ≤ ri) := ⟨by have := HA8.out.2.size; omega⟩
  obtain ⟨u9, hu9⟩ : ∃ W, W = u8.alloc (.mapIter (some w.heap.size) 1 #[] 1) := ⟨_, rfl⟩
  have HRG : Kp ((Instr.range 129 (.map (some w.heap.size))).run Tryz.prog u8 = .ok (.pointer (some ⟨ri, 0, none⟩)) u9) := ⟨by rw [hu9, hri]; exact run_range_map _ _ _ _ _ _ 1 Tryz.underlying129 HA8.out.1⟩
  have hb89 : Below u8.heap.size u8 u9 := by rw [hu9]; exact bel_alloc (Below.refl _ _) _
  have hr9 : u9.heap[ri]? = some (.mapIter (some w.heap.size) 1 #[] 1) := by rw [hu9, hri]; exact blk_new (Below.refl _ _)
  have ha9 := blk_keep HA8.out.1 hb89
  obtain ⟨u10, hu10⟩ : ∃ W, W = setBlock u9 ri (.mapIter (some w.heap.size) 1 #[0] 1) := ⟨_, rfl⟩
  have HNX : Kp (∀ ty, (Instr.next (.pointer (some ⟨ri, 0, none⟩)) false ty).run Tryz.prog u9 = .ok (.tuple #[.bool true, .int .u64 (code : Int), .slice (some ⟨ga, 0, none⟩) 1 cap']) u10) := ⟨fun ty => by rw [hu10]; exact next_one ty ri _ _ 0 hr9 ha9 (by omega)⟩
  have hb810 : Below u8.heap.size u8 u10 := by rw [hu10]; exact bel_setBlock hb89 (by omega) _
  have hr10 : u10.heap[ri]? = some (.mapIter (some w.heap.size) 1 #[0] 1) := by rw [hu10]; exact set_same _ hr9
  have ha10 := blk_keep HA8.out.1 hb810
  have hen := entry_one (P := Tryz.prog) ri _ _ 0 hr10 ha10
  have H10 := Kp.mk (And.intro hr10 (And.intro ha10 (bel_then HA8.out.2 hb810)))
  have HK10 := Kp.mk (And.intro ((keeps_below hb810).cell HK8.out.1) ((keeps_below hb810).cell HK8.out.2))
  clear hri hu9 hb89 hr9 ha9 hu10 hb810 hr10 ha10
  rw [rounds_succ]
  go_wp2_with (first | (at_range; refine wpList_range_run _ rfl _ _ rfl _ _ _ rfl HRG.out ?_))
  clear HRG
  refine wp_loop_rounds 2 ?_
  rw [rounds_succ]
  go_wp2_with (first | (at_next; refine wpList_next_run _ rfl _ rfl _ _ _ rfl (HNX.out _) ?_))
  clear HNX hen
  refine (newMc_calls u10).mono ?_
  rintro e u11 ⟨rfl, hu11⟩
  obtain ⟨gm, hgm⟩ : ∃ q, q = u10.heap.size := ⟨_, rfl⟩
  obtain ⟨ic, hic⟩ : ∃ q, q = u10.heap.size + 1 := ⟨_, rfl⟩
  rw [← hic]
  have hb11 : Below u10.heap.size u10 u11 := by rw [hu11]; exact bel_alloc (bel_alloc (Below.refl _ _) _) _
  have hm11 : u11.heap[gm]? = some (.map #[] 0) := by rw [hu11, hgm]; exact blk_new (bel_alloc (Below.refl _ _) _)
  have hc11 : u11.heap[ic]? = some (.cells #[.map (some gm), .int .u64 0] 135 (0, 0)) := by rw [hu11, hic, hgm]; exact blk_new2 (Below.refl _ _)
  have cs1 := blk_cell hc11 1
  have fs1 := blk_frozen hc11 1
  obtain ⟨u12, hu12⟩ : ∃ W, W = u11.setCell ⟨ic, 1, none⟩ (.int .u64 (code : Int)) := ⟨_, rfl⟩
  have hc12 : u12.heap[ic]? = some (.cells #[.map (some gm), .int .u64 (code : Int)] 135 (0, 0)) := by rw [hu12]; exact blk_set hc11 1 _
  have hm12 : u12.heap[gm]? = some (.map #[] 0) := by rw [hu12]; exact blk_far (p := ⟨ic, 1, none⟩) hm11 (show gm ≠ ic by omega) _
  have hb12 : Below u10.heap.size u10 u12 := by rw [hu12]; exact bel_set hb11 (p := ⟨ic, 1, none⟩) (show u10.heap.size ≤ ic by omega) _
  have hbw := bel_then H10.out.2.2 hb12
  have hszw := H10.out.2.2.size
  have hril := (Array.getElem?_eq_some_iff.1 H10.out.1).1
  have hal0 := (Array.getElem?_eq_some_iff.1 H10.out.2.1).1
  have himl : im < w.heap.size := World.block_lt_of_cell? w _ HG.out.1
  have HLT : Kp (w.heap.size ≤ gm ∧ w.heap.size ≤ ic ∧ ri < gm ∧ w.heap.size < gm ∧ gm ≠ ic ∧ im < w.heap.size) := ⟨by omega⟩
  have HW12 := Kp.mk (HWL.out ic gm 0 ga 0 cap' u12 (blk_cell hc12 0) hm12 ((keeps_below hb12).cell HK10.out.1) ((keeps_below hb12).cell HK10.out.2) (HG.out.2.2.2.below hbw))
  have H12 := Kp.mk (And.intro (blk_keep H10.out.1 hb12) (And.intro (blk_keep H10.out.2.1 hb12) (And.intro hbw hc12)))
  clear hgm hic hu11 hb11 hm11 hc11 hc12 hm12 hb12 hbw hszw hril hal0 himl HWL HK10 H10
  go_wp2_with fail
  rw [← hu12]
  clear hu12 cs1 fs1
  refine HW12.out.mono ?_
  rintro e u13 ⟨rfl, ⟨gI, hgI, hgm13, hrd⟩, hx⟩
  have hgMl := HG.out.2.2.1
  have him13 := hx.cell (cell_bel H12.out.2.2.1 HG.out.1) (show ¬ im = gm by have := HLT.out; omega)
  have hgM13 := hx.keep (blk_keep HG.out.2.1 H12.out.2.2.1) (show ¬ gM = gm by have := HLT.out; omega)
  have hc013 := hx.cell (blk_cell H12.out.2.2.2 0) (show ¬ ic = gm by have := HLT.out; omega)
  have hc113 := hx.cell (blk_cell H12.out.2.2.2 1) (show ¬ ic = gm by have := HLT.out; omega)
  have HP := Kp.mk (put_calls im gM ic code clkM u13 him13 hgM13 hc113)
  have H13 := Kp.mk (And.intro (hx.keep H12.out.1 (show ¬ ri = gm by have := HLT.out; omega)) (And.intro (hx.keep H12.out.2.1 (show ¬ w.heap.size = gm by have := HLT.out; omega)) (And.intro hc013 (And.intro hc113 (And.intro hgm13 hrd)))))
  have HX13 := Kp.mk (And.intro hx (Nat.le_trans H12.out.2.2.1.size hgI))
  clear hgI hgm13 hrd hx hgMl him13 hgM13 hc013 hc113 HW12
  go_wp2_with fail
  refine HP.out.mono ?_
  rintro e u14 ⟨rfl, hgM14, hk, hx2⟩
  have hr14 := hx2.keep H13.out.1 (show ¬ ri = gM by have := HRI.out; have := HG.out.2.2.1; omega)
  have ha14 := hx2.keep H13.out.2.1 (show ¬ w.heap.size = gM by have := HG.out.2.2.1; omega)
  have HND := Kp.mk (fun ty => next_done (P := Tryz.prog) ty ri _ _ 0 hr14 ha14 (by omega))
  have hb := H12.out.2.2.1
  have HF := Kp.mk (And.intro hgM14 (And.intro (hk.cell H13.out.2.2.1) (And.intro (hk.cell H13.out.2.2.2.1) (And.intro (hx2.keep H13.out.2.2.2.2.1 (show ¬ gm = gM by have := HLT.out; have := HG.out.2.2.1; omega)) (hk.rd H13.out.2.2.2.2.2)))))
  have HEX : Kp (Ex (· = gM) w u14) := ⟨⟨hx2.os.trans (HX13.out.1.os.trans hb.os), hx2.tape.trans (HX13.out.1.tape.trans hb.tape), hx2.output.trans (HX13.out.1.output.trans hb.output), Nat.le_trans hb.size (Nat.le_trans HX13.out.1.size hx2.size), fun k hkl hne => (hx2.block k (by have := hb.size; have := HX13.out.1.size; omega) hne).trans ((HX13.out.1.block k (by have := hb.size; omega) (show ¬ k = gm by have := HLT.out; omega)).trans (hb.block k hkl))⟩⟩
  clear hgM14 hk hx2 hr14 ha14 hb HP H13 H12
  go_wp2_with fail
  rw [rounds_succ]
  go_wp2_with (first | (at_next; refine wpList_next_run _ rfl _ rfl _ _ _ rfl (HND.out _) ?_))
  go_ret
  exact ⟨rfl, ⟨gI, ic, gm, HX13.out.2, HLT.out.2.1, HLT.out.1, HF.out.1, HF.out.2.1, HF.out.2.2.1, HF.out.2.2.2.1, HF.out.2.2.2.2⟩, HEX.out⟩

end Go.Proofs.YtnhnkfdhkifahaaGreatDoor
