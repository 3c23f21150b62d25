/- The walk of (*index.multiWidthIndex).Marshal of an index of one width. -/
import Derived.Test.YtnhnkfdhkifahaaGreatDoorSwMar
import Derived.Test.YtnhnkfdhkifahaaGreatDoorKeys1
import Derived.Test.YtnhnkfdhkifahaaGreatDoorSort1
namespace Go.Proofs.YtnhnkfdhkifahaaGreatDoor
open Go.RowKit
open Go.ChangeMaps (setBlock)

/-- An index of one width, with one row, that lies so. -/
structure Mw1 (B : Nat) (w : World) (ip gm width len g o n c : Nat) (bs : List UInt8) : Prop where
  hip : w.cell? ⟨ip, 0, none⟩ = some (.map (some gm))
  hgm : ∃ bn clk, bn < clk ∧ w.heap[gm]? = some (.map #[⟨.int .u32 width, .agg #[.int .u32 width, .int .u64 len, .slice (some ⟨g, o, none⟩) n c], bn⟩] clk)
  row : RdB w (some ⟨g, o, none⟩) n c bs
  lts : ip < B ∧ gm < B ∧ g < B
theorem Mw1.belowB {B : Nat} {w w1 : World} {ip gm width len g o n c : Nat} {bs : List UInt8} (h : Mw1 B w ip gm width len g o n c bs) (hb : Below B w w1) : Mw1 B w1 ip gm width len g o n c bs := by
  obtain ⟨bn, clk, h1, h2⟩ := h.hgm
  refine ⟨(World.cell?_of_block (a := ⟨ip, 0, none⟩) (hb.block _ h.lts.1)).trans h.hip, ⟨bn, clk, h1, (hb.block _ h.lts.2.1).trans h2⟩, h.row.under hb fun g' o' sp e => ?_, h.lts⟩
  have e' := Option.some.inj e
  simp only [Addr.mk.injEq] at e'
  have := h.lts.2.2
  omega

set_option maxHeartbeats 8000000 in
set_option maxRecDepth 100000 in
theorem mwMarshal_calls (B b ip gm width len g o n c : Nat) (xs bs : List UInt8) (w : World) (h : Buf B b xs w) (hBw : B ≤ w.heap.size) (hm : Mw1 B w ip gm width len g o n c bs) (h0 : 0 < n) (hn : n ≤ 1000000) (hw : width < 2 ^ 32) (hl : xs.length ≤ 500) :
    Calls Tryz.prog 75 #[.pointer (some ⟨ip, 0, none⟩), .iface 65 (.pointer (some ⟨b, 0, none⟩))] w fun e w' =>
      (∃ m : Int, e = .returned (.tuple #[.int .u64 m, .nilIface])) ∧ Buf B b (xs ++ Lib.leBytes 4 1 ++ (Lib.leBytes 4 width ++ Lib.leBytes 8 n ++ bs)) w' ∧ Below B w w' ∧ Beside b w w' := by
  have HX := Kp.mk (And.intro h (And.intro hBw (And.intro hm (And.intro h0 (And.intro hn (And.intro hw hl))))))
  have HZ1 := Kp.mk (zz32_calls B b 1 xs w h hBw (by omega) (by omega))
  obtain ⟨bn, clk, hbc, hgm⟩ := hm.hgm
  have c0 := hm.hip
  have hlen := fun ty => run_len_map (P := Tryz.prog) w 68 ty gm _ clk (by kernel_rfl) hgm
  have HBC := Kp.mk (And.intro hbc hgm)
  clear h hBw hm h0 hn hw hl hgm hbc
  go_enter Tryz.func75, Tryz.ntmps75
  go_wp2_with fail
  refine HZ1.out.mono ?_
  rintro e w1 ⟨rfl, hbf, hbl, hbs⟩
  have H1 := Kp.mk (And.intro hbf (And.intro hbl hbs))
  have hm1 := HX.out.2.2.1.belowB hbl
  have hgm1 := (hbl.block _ HX.out.2.2.1.lts.2.1).trans HBC.out.2
  have hs1 : B ≤ w1.heap.size := Nat.le_trans HX.out.2.1 hbl.size
  have hlts := HX.out.2.2.1.lts
  have hal := bel_alloc (Below.refl w1.heap.size w1) (.cells #[.int .u32 0] 119)
  have hgm2 := blk_keep hgm1 hal
  obtain ⟨r, hr⟩ : ∃ r, r = (w1.alloc (.cells #[.int .u32 0] 119)).heap.size := ⟨_, rfl⟩
  have hrs : r = w1.heap.size + 1 := by rw [hr]; simp [World.alloc, -World.alloc_eq]
  obtain ⟨w3, hw3⟩ : ∃ W, W = (w1.alloc (.cells #[.int .u32 0] 119)).alloc (.mapIter (some gm) clk #[] clk) := ⟨_, rfl⟩
  have HRG : Kp ((Instr.range 68 (.map (some gm))).run Tryz.prog (w1.alloc (.cells #[.int .u32 0] 119)) = .ok (.pointer (some ⟨r, 0, none⟩)) w3) := ⟨by rw [hw3, hr]; exact run_range_map _ _ _ _ gm _ clk Tryz.underlying68 hgm2⟩
  have hb13 : Below w1.heap.size w1 w3 := by rw [hw3]; exact bel_alloc hal _
  have hr3 : w3.heap[r]? = some (.mapIter (some gm) clk #[] clk) := by rw [hw3, hrs]; exact blk_new2 (Below.refl _ _)
  have hg3 : w3.heap[w1.heap.size]? = some (.cells #[.int .u32 0] 119 (0, 0)) := by rw [hw3]; exact blk_new (bel_alloc (Below.refl _ _) _)
  have hgm3 := blk_keep hgm1 hb13
  have hgl := (Array.getElem?_eq_some_iff.1 hgm1).1
  obtain ⟨w4, hw4⟩ : ∃ W, W = setBlock w3 r (.mapIter (some gm) clk #[bn] clk) := ⟨_, rfl⟩
  have HNX : Kp (∀ ty, (Instr.next (.pointer (some ⟨r, 0, none⟩)) false ty).run Tryz.prog w3 = .ok (.tuple #[.bool true, .int .u32 width, .agg #[.int .u32 width, .int .u64 len, .slice (some ⟨g, o, none⟩) n c]]) w4) := ⟨fun ty => by rw [hw4]; exact next_one ty r _ _ bn hr3 hgm3 HBC.out.1⟩
  have hb14 : Below w1.heap.size w1 w4 := by rw [hw4]; exact bel_setBlock hb13 (by omega) _
  have hr4 : w4.heap[r]? = some (.mapIter (some gm) clk #[bn] clk) := by rw [hw4]; exact set_same _ hr3
  have hg4 : w4.heap[w1.heap.size]? = some (.cells #[.int .u32 0] 119 (0, 0)) := by rw [hw4, set_far _ (by omega)]; exact hg3
  have hgm4 := blk_keep hgm1 hb14
  have hen := entry_one (P := Tryz.prog) r _ _ bn hr4 hgm4
  have hal4 := bel_alloc (Below.refl w4.heap.size w4) (.cells #[.int .u32 width] 119)
  have hrl := (Array.getElem?_eq_some_iff.1 hr4).1
  obtain ⟨ga, cap', w6, hap, hca, hsz6, hb6, hbk6⟩ := appKey32 (w4.alloc (.cells #[.int .u32 width] 119)) w1.heap.size w4.heap.size width (blk_keep hg4 hal4) (blk_new (w := w4) (o := .cells #[.int .u32 width] 119) (Below.refl _ _))
  have hr6 : w6.heap[r]? = some (.mapIter (some gm) clk #[bn] clk) := by rw [hbk6 r (by have := hal4.size; omega) (by omega)]; exact blk_keep hr4 hal4
  have hb46 : Below w1.heap.size w1 w6 := hb14.trans ((hal4.mono hb14.size).trans hb6)
  have hgm6 := blk_keep hgm1 hb46
  have HND := Kp.mk (fun ty => next_done (P := Tryz.prog) ty r _ _ bn hr6 hgm6 HBC.out.1)
  have HLK : Kp ((Instr.lookup 68 (.map (some gm)) (.int .u32 width) false).run Tryz.prog w6 = .ok (.agg #[.int .u32 width, .int .u64 len, .slice (some ⟨g, o, none⟩) n c]) w6) := ⟨look_one (P := Tryz.prog) Tryz.underlying68 Tryz.underlying119 _ bn hgm6 false⟩
  have HAP := Kp.mk hap
  have HCA := Kp.mk hca
  have H6 := Kp.mk (And.intro hb46 (And.intro hm1 hs1))
  have hmk := mkKeys32
  have c0 := hm1.hip
  have c0' := cell_bel hal hm1.hip
  have hlen1 := fun ty => run_len_map (P := Tryz.prog) w1 68 ty gm _ clk (by kernel_rfl) hgm1
  clear hbf hbl hbs HZ1 hlen hm1 hgm1 hs1 hlts hal hgm2 hr hrs hw3 hb13 hr3 hg3 hgm3 hgl hw4 hb14 hr4 hg4 hgm4 hal4 hrl hap hca hsz6 hb6 hbk6 hr6 hb46 hgm6
  go_wp2_with (first | (at_range; refine wpList_range_run _ rfl _ _ rfl _ _ _ rfl HRG.out ?_))
  clear c0 c0' hlen1 hmk HRG
  refine wp_loop_rounds 2 ?_
  rw [rounds_succ]
  go_wp2_with (first | (at_next; refine wpList_next_run _ rfl _ rfl _ _ _ rfl (HNX.out _) ?_) | (at_builtin; refine Lib.wpList_append_run _ rfl _ _ _ _ rfl _ _ rfl rfl _ _ HAP.out ?_))
  clear hen HNX HAP
  rw [rounds_succ]
  go_wp2_with (first | (at_next; refine wpList_next_run _ rfl _ rfl _ _ _ rfl (HND.out _) ?_))
  clear HND
  refine (sort1_uint32 (some ⟨ga, 0, none⟩) cap' w6).mono ?_
  rintro e w7 ⟨rfl, hw7⟩
  subst hw7
  have hal := bel_alloc (Below.refl w7.heap.size w7) (.cells #[.int .u32 width, .int .u64 len, .slice (some ⟨g, o, none⟩) n c] 151)
  have hb18 : Below w1.heap.size w1 (w7.alloc (.cells #[.int .u32 width, .int .u64 len, .slice (some ⟨g, o, none⟩) n c] 151)) := H6.out.1.trans (hal.mono H6.out.1.size)
  have hm8 := H6.out.2.1.belowB (hb18.mono H6.out.2.2)
  have HSM := Kp.mk (swMarshal_calls B b w7.heap.size width len g o n c (xs ++ Lib.leBytes 4 1) bs (w7.alloc (.cells #[.int .u32 width, .int .u64 len, .slice (some ⟨g, o, none⟩) n c] 151)) (H1.out.1.below hb18) (Nat.le_trans H6.out.2.2 hb18.size) (blk_new (w := w7) (o := .cells #[.int .u32 width, .int .u64 len, .slice (some ⟨g, o, none⟩) n c] 151) (Below.refl _ _)) hm8.row hm8.lts.2.2 HX.out.2.2.2.1 HX.out.2.2.2.2.1 HX.out.2.2.2.2.2.1 (by rw [List.length_append, Lib.leBytes_length]; have := HX.out.2.2.2.2.2.2; omega))
  have HB8 := Kp.mk (And.intro (H1.out.2.1.trans (hb18.mono H6.out.2.2)) (Lib.OthersKept.trans H1.out.2.2 (beside_below hb18)))
  have hca := HCA.out
  have hq := H6.out.2.1.belowB (H6.out.1.mono H6.out.2.2)
  have c0 := hq.hip
  clear hal hb18 hm8 hq
  go_wp2_with fail
  refine wp_loop_rounds 2 ?_
  rw [rounds_succ]
  go_wp2_with (first | (at_lookup; refine wpList_lookup_run _ rfl _ _ _ _ rfl _ _ _ rfl rfl HLK.out ?_))
  clear hca c0 HLK HCA
  refine HSM.out.mono ?_
  rintro e w9 ⟨⟨m, rfl⟩, hbf, hbl, hbs⟩
  have HE := Kp.mk (And.intro hbf (And.intro (HB8.out.1.trans hbl) (Lib.OthersKept.trans HB8.out.2 hbs)))
  clear hbf hbl hbs HSM HB8
  go_wp2_with fail
  rw [rounds_succ]
  go_wp2_with fail
  refine bodyPost_ret (results_tmp2 rfl _ _ _) rfl ?_
  refine ⟨⟨_, rfl⟩, ?_, HE.out.2.1, HE.out.2.2⟩
  have := HE.out.1
  simpa only [List.append_assoc] using this

/-- One of that hash function. -/
structure Mc1 (B : Nat) (w : World) (ic code gm width len g o n c : Nat) (bs : List UInt8) : Prop where
  code : w.cell? ⟨ic, 1, none⟩ = some (.int .u64 code)
  mw : Mw1 B w ic gm width len g o n c bs
theorem Mc1.belowB {B : Nat} {w w1 : World} {ic code gm width len g o n c : Nat} {bs : List UInt8} (h : Mc1 B w ic code gm width len g o n c bs) (hb : Below B w w1) : Mc1 B w1 ic code gm width len g o n c bs :=
  ⟨(World.cell?_of_block (a := ⟨ic, 1, none⟩) (hb.block _ h.mw.lts.1)).trans h.code, h.mw.belowB hb⟩

set_option maxHeartbeats 8000000 in
set_option maxRecDepth 100000 in
/-- (*index.multiWidthCodedIndex).Marshal. -/
theorem mcMarshal_calls (B b ic code gm width len g o n c : Nat) (xs bs : List UInt8) (w : World) (h : Buf B b xs w) (hBw : B ≤ w.heap.size) (hm : Mc1 B w ic code gm width len g o n c bs) (hcd : code < 2 ^ 64) (h0 : 0 < n) (hn : n ≤ 1000000) (hw : width < 2 ^ 32) (hl : xs.length ≤ 400) :
    Calls Tryz.prog 67 #[.pointer (some ⟨ic, 0, none⟩), .iface 65 (.pointer (some ⟨b, 0, none⟩))] w fun e w' =>
      (∃ m : Int, e = .returned (.tuple #[.int .u64 m, .nilIface])) ∧ Buf B b (xs ++ Lib.leBytes 8 code ++ Lib.leBytes 4 1 ++ (Lib.leBytes 4 width ++ Lib.leBytes 8 n ++ bs)) w' ∧ Below B w w' ∧ Beside b w w' := by
  have HZ1 := Kp.mk (zz64_calls B b code xs w h hBw hcd (by omega))
  have HM := Kp.mk (fun w (hbb : Buf B b (xs ++ Lib.leBytes 8 code) w) (hBw : B ≤ w.heap.size) (hm : Mc1 B w ic code gm width len g o n c bs) => mwMarshal_calls B b ic gm width len g o n c _ bs w hbb hBw hm.mw h0 hn hw (by rw [List.length_append, Lib.leBytes_length]; omega))
  have HX := Kp.mk (And.intro hm hBw)
  have c1 := hm.code
  clear h hBw hm hcd h0 hn hw hl
  go_enter Tryz.func67, Tryz.ntmps67
  go_wp2_with fail
  refine HZ1.out.mono ?_
  rintro e w1 ⟨rfl, hbf, hbl, hbs⟩
  have H1 := Kp.mk (And.intro hbl hbs)
  have HM1 := Kp.mk (HM.out w1 hbf (Nat.le_trans HX.out.2 hbl.size) (HX.out.1.belowB hbl))
  clear hbf hbl hbs HZ1 HM c1
  go_wp2_with fail
  refine HM1.out.mono ?_
  rintro e w2 ⟨⟨m, rfl⟩, hbf, hbl, hbs⟩
  have HE := Kp.mk (And.intro hbf (And.intro (H1.out.1.trans hbl) (Lib.OthersKept.trans H1.out.2 hbs)))
  clear hbf hbl hbs HM1 H1
  go_wp2_with fail
  refine bodyPost_ret (results_tmp2 rfl _ _ _) rfl ?_
  exact ⟨⟨_, rfl⟩, HE.out.1, HE.out.2.1, HE.out.2.2⟩

end Go.Proofs.YtnhnkfdhkifahaaGreatDoor
