/- The walk of (*index.MultihashIndexSorted).Marshal of an index of one hash function and one width. -/
import Derived.Test.YtnhnkfdhkifahaaGreatDoorMwMar
namespace Go.Proofs.YtnhnkfdhkifahaaGreatDoor
open Go.RowKit
open Go.ChangeMaps (setBlock)

/-- An index of one hash function and one width, with one row. -/
structure Mi1 (B : Nat) (w : World) (im gM ic code gm width len g o n c : Nat) (bs : List UInt8) : Prop where
  him : w.cell? ⟨im, 0, none⟩ = some (.map (some gM))
  hgM : ∃ bn clk, bn < clk ∧ w.heap[gM]? = some (.map #[⟨.int .u64 code, .pointer (some ⟨ic, 0, none⟩), bn⟩] clk)
  mc : Mc1 B w ic code gm width len g o n c bs
  lts : im < B ∧ gM < B
theorem Mi1.belowB {B : Nat} {w w1 : World} {im gM ic code gm width len g o n c : Nat} {bs : List UInt8} (h : Mi1 B w im gM ic code gm width len g o n c bs) (hb : Below B w w1) : Mi1 B w1 im gM ic code gm width len g o n c bs := by
  obtain ⟨bn, clk, h1, h2⟩ := h.hgM
  exact ⟨(World.cell?_of_block (a := ⟨im, 0, none⟩) (hb.block _ h.lts.1)).trans h.him, ⟨bn, clk, h1, (hb.block _ h.lts.2).trans h2⟩, h.mc.belowB hb, h.lts⟩

set_option maxHeartbeats 8000000 in
set_option maxRecDepth 100000 in
/-- sortedMultihashCodes of one hash function. -/
theorem sortedCodes_calls (im gM ic code bn clk : Nat) (w : World) (him : w.cell? ⟨im, 0, none⟩ = some (.map (some gM))) (hgM : w.heap[gM]? = some (.map #[⟨.int .u64 code, .pointer (some ⟨ic, 0, none⟩), bn⟩] clk)) (hbc : bn < clk) :
    Calls Tryz.prog 66 #[.pointer (some ⟨im, 0, none⟩)] w fun e w' =>
      (∃ ga cap', e = .returned (.slice (some ⟨ga, 0, none⟩) 1 cap') ∧ w'.cell? ⟨ga, 0, none⟩ = some (.int .u64 code)) ∧ Below w.heap.size w w' := by
  have hal := bel_alloc (Below.refl w.heap.size w) (.cells #[.int .u64 0] 22)
  have hgm2 := blk_keep hgM hal
  obtain ⟨r, hr⟩ : ∃ r, r = (w.alloc (.cells #[.int .u64 0] 22)).heap.size := ⟨_, rfl⟩
  have hrs : r = w.heap.size + 1 := by rw [hr]; simp [World.alloc, -World.alloc_eq]
  obtain ⟨w3, hw3⟩ : ∃ W, W = (w.alloc (.cells #[.int .u64 0] 22)).alloc (.mapIter (some gM) clk #[] clk) := ⟨_, rfl⟩
  have HRG : Kp ((Instr.range 71 (.map (some gM))).run Tryz.prog (w.alloc (.cells #[.int .u64 0] 22)) = .ok (.pointer (some ⟨r, 0, none⟩)) w3) := ⟨by rw [hw3, hr]; exact run_range_map _ _ _ _ gM _ clk Tryz.underlying71 hgm2⟩
  have hb13 : Below w.heap.size w w3 := by rw [hw3]; exact bel_alloc hal _
  have hr3 : w3.heap[r]? = some (.mapIter (some gM) clk #[] clk) := by rw [hw3, hrs]; exact blk_new2 (Below.refl _ _)
  have hg3 : w3.heap[w.heap.size]? = some (.cells #[.int .u64 0] 22 (0, 0)) := by rw [hw3]; exact blk_new (bel_alloc (Below.refl _ _) _)
  have hgm3 := blk_keep hgM hb13
  have hgl := (Array.getElem?_eq_some_iff.1 hgM).1
  obtain ⟨w4, hw4⟩ : ∃ W, W = setBlock w3 r (.mapIter (some gM) clk #[bn] clk) := ⟨_, rfl⟩
  have HNX : Kp (∀ ty, (Instr.next (.pointer (some ⟨r, 0, none⟩)) false ty).run Tryz.prog w3 = .ok (.tuple #[.bool true, .int .u64 code, .pointer (some ⟨ic, 0, none⟩)]) w4) := ⟨fun ty => by rw [hw4]; exact next_one ty r _ _ bn hr3 hgm3 hbc⟩
  have hb14 : Below w.heap.size w w4 := by rw [hw4]; exact bel_setBlock hb13 (by omega) _
  have hr4 : w4.heap[r]? = some (.mapIter (some gM) clk #[bn] clk) := by rw [hw4]; exact set_same _ hr3
  have hg4 : w4.heap[w.heap.size]? = some (.cells #[.int .u64 0] 22 (0, 0)) := by rw [hw4, set_far _ (by omega)]; exact hg3
  have hgm4 := blk_keep hgM hb14
  have hen := entry_one (P := Tryz.prog) r _ _ bn hr4 hgm4
  have hal4 := bel_alloc (Below.refl w4.heap.size w4) (.cells #[.int .u64 code] 22)
  have hrl := (Array.getElem?_eq_some_iff.1 hr4).1
  obtain ⟨ga, cap', w6, hap, hca, hsz6, hb6, hbk6⟩ := appKey64 (w4.alloc (.cells #[.int .u64 code] 22)) w.heap.size w4.heap.size code (blk_keep hg4 hal4) (blk_new (w := w4) (o := .cells #[.int .u64 code] 22) (Below.refl _ _))
  have hr6 : w6.heap[r]? = some (.mapIter (some gM) clk #[bn] clk) := by rw [hbk6 r (by have := hal4.size; omega) (by omega)]; exact blk_keep hr4 hal4
  have hb46 : Below w.heap.size w w6 := hb14.trans ((hal4.mono hb14.size).trans hb6)
  have hgm6 := blk_keep hgM hb46
  have HND := Kp.mk (fun ty => next_done (P := Tryz.prog) ty r _ _ bn hr6 hgm6 hbc)
  have HAP := Kp.mk hap
  have HCA := Kp.mk hca
  have H6 := Kp.mk hb46
  have hmk := mkKeys64
  have c0 := him
  have c0' := cell_bel hal him
  have hlen1 := fun ty => run_len_map (P := Tryz.prog) w 71 ty gM _ clk (by kernel_rfl) hgM
  clear hal hgm2 hr hrs hw3 hb13 hr3 hg3 hgm3 hgl hw4 hb14 hr4 hg4 hgm4 hal4 hrl hap hca hsz6 hb6 hbk6 hr6 hb46 hgm6 him hgM hbc
  go_enter Tryz.func66, Tryz.ntmps66
  go_wp2_with (first | (at_range; refine wpList_range_run _ rfl _ _ rfl _ _ _ rfl HRG.out ?_))
  clear c0 c0' hlen1 hmk HRG
  refine wp_loop_rounds 2 ?_
  rw [rounds_succ]
  go_wp2_with (first | (at_next; refine wpList_next_run _ rfl _ rfl _ _ _ rfl (HNX.out _) ?_) | (at_builtin; refine Lib.wpList_append_run _ rfl _ _ _ _ rfl _ _ rfl rfl _ _ HAP.out ?_))
  clear hen HNX HAP
  rw [rounds_succ]
  go_wp2_with (first | (at_next; refine wpList_next_run _ rfl _ rfl _ _ _ rfl (HND.out _) ?_))
  clear HND
  refine (sort1_uint64 (some ⟨ga, 0, none⟩) cap' w6).mono ?_
  rintro e w7 ⟨rfl, hw7⟩
  subst hw7
  go_wp2_with fail
  go_ret
  exact ⟨⟨_, _, rfl, HCA.out⟩, H6.out⟩

set_option maxHeartbeats 8000000 in
set_option maxRecDepth 100000 in
/-- (*index.MultihashIndexSorted).Marshal. -/
theorem miMarshal_calls (B b im gM ic code gm width len g o n c : Nat) (xs bs : List UInt8) (w : World) (h : Buf B b xs w) (hBw : B ≤ w.heap.size) (hm : Mi1 B w im gM ic code gm width len g o n c bs) (hcd : code < 2 ^ 64) (h0 : 0 < n) (hn : n ≤ 1000000) (hw : width < 2 ^ 32) (hl : xs.length ≤ 300) :
    Calls Tryz.prog 59 #[.pointer (some ⟨im, 0, none⟩), .iface 65 (.pointer (some ⟨b, 0, none⟩))] w fun e w' =>
      (∃ m : Int, e = .returned (.tuple #[.int .u64 m, .nilIface])) ∧ Buf B b (xs ++ Lib.leBytes 4 1 ++ (Lib.leBytes 8 code ++ Lib.leBytes 4 1 ++ (Lib.leBytes 4 width ++ Lib.leBytes 8 n ++ bs))) w' ∧ Below B w w' ∧ Beside b w w' := by
  have HZ1 := Kp.mk (zz32_calls B b 1 xs w h hBw (by omega) (by omega))
  have HM := Kp.mk (fun w (hbb : Buf B b (xs ++ Lib.leBytes 4 1) w) (hBw : B ≤ w.heap.size) (hm : Mc1 B w ic code gm width len g o n c bs) => mcMarshal_calls B b ic code gm width len g o n c _ bs w hbb hBw hm hcd h0 hn hw (by rw [List.length_append, Lib.leBytes_length]; omega))
  have HX := Kp.mk (And.intro hm hBw)
  obtain ⟨bn, clk, hbc, hgM⟩ := hm.hgM
  have c0 := hm.him
  have hlen := fun ty => run_len_map (P := Tryz.prog) w 71 ty gM _ clk (by kernel_rfl) hgM
  have HBC := Kp.mk (And.intro hbc hgM)
  clear h hBw hm hcd h0 hn hw hl hgM hbc
  go_enter Tryz.func59, Tryz.ntmps59
  go_wp2_with fail
  refine HZ1.out.mono ?_
  rintro e w1 ⟨rfl, hbf, hbl, hbs⟩
  have hm1 := HX.out.1.belowB hbl
  have hgM1 := (hbl.block _ HX.out.1.lts.2).trans HBC.out.2
  have HSC := Kp.mk (sortedCodes_calls im gM ic code bn clk w1 hm1.him hgM1 HBC.out.1)
  have H1 := Kp.mk (And.intro hbf (And.intro hbl hbs))
  clear hbf hbl hbs HZ1 c0 hlen hm1 hgM1
  go_wp2_with fail
  refine HSC.out.mono ?_
  rintro e w2 ⟨⟨ga, cap', rfl, hca⟩, hb⟩
  have hs1 : B ≤ w1.heap.size := Nat.le_trans HX.out.2 H1.out.2.1.size
  have hb2 := H1.out.2.1.trans (hb.mono hs1)
  have hm2 := HX.out.1.belowB hb2
  have hgM2 := (hb2.block _ HX.out.1.lts.2).trans HBC.out.2
  have HLK : Kp ((Instr.lookup 71 (.map (some gM)) (.int .u64 code) false).run Tryz.prog w2 = .ok (.pointer (some ⟨ic, 0, none⟩)) w2) := ⟨look_one (P := Tryz.prog) Tryz.underlying71 Tryz.underlying22 _ bn hgM2 false⟩
  have HM2 := Kp.mk (HM.out w2 (H1.out.1.below hb) (Nat.le_trans hs1 hb.size) hm2.mc)
  have HB2 := Kp.mk (And.intro hb2 (Lib.OthersKept.trans H1.out.2.2 (beside_below hb)))
  have c0 := hm2.him
  clear hb hs1 hb2 hm2 hgM2 HSC HM H1
  go_wp2_with fail
  refine wp_loop_rounds 2 ?_
  rw [rounds_succ]
  go_wp2_with (first | (at_lookup; refine wpList_lookup_run _ rfl _ _ _ _ rfl _ _ _ rfl rfl HLK.out ?_))
  clear hca c0 HLK
  refine HM2.out.mono ?_
  rintro e w9 ⟨⟨m, rfl⟩, hbf, hbl, hbs⟩
  have HE := Kp.mk (And.intro hbf (And.intro (HB2.out.1.trans hbl) (Lib.OthersKept.trans HB2.out.2 hbs)))
  clear hbf hbl hbs HM2 HB2
  go_wp2_with fail
  rw [rounds_succ]
  go_wp2_with fail
  refine bodyPost_ret (results_tmp2 rfl _ _ _) rfl ?_
  refine ⟨⟨_, rfl⟩, ?_, HE.out.2.1, HE.out.2.2⟩
  have := HE.out.1
  simpa only [List.append_assoc] using this

end Go.Proofs.YtnhnkfdhkifahaaGreatDoor
