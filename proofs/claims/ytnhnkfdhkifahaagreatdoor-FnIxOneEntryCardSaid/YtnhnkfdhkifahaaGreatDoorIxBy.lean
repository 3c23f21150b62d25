/- The walks of impl.indexBytes and impl.IxBytes of one entry, of both kinds. Printed by gen-ixby.py. -/
import Derived.Test.YtnhnkfdhkifahaaGreatDoorIxNew
namespace Go.Proofs.YtnhnkfdhkifahaaGreatDoor
open Go.RowKit

set_option maxHeartbeats 8000000 in
set_option maxRecDepth 100000 in
/-- impl.indexBytes. -/
theorem ixBytesA_calls (gE oE cE v codec code off : Nat) (s : ByteArray) (w : World) (he0 : w.cell? ⟨gE, oE, none⟩ = some (.int .u64 v)) (he1 : w.cell? ⟨gE, oE + 1, none⟩ = some (.int .u64 codec)) (he2 : w.cell? ⟨gE, oE + 2, none⟩ = some (.int .u64 code)) (he3 : w.cell? ⟨gE, oE + 3, none⟩ = some (.string s)) (he4 : w.cell? ⟨gE, oE + 4, none⟩ = some (.int .u64 off)) (h : Tidy v codec code s) (hs : s.size ≤ 1000) (hoff : off < 2 ^ 64) (he : MhErrs w) :
    Calls Tryz.prog 9 #[.slice (some ⟨gE, oE, none⟩) 1 cE, .int .u64 1024] w fun e w' => e = .returned (.tuple #[.string (strB ([128, 8] ++ (Lib.leBytes 4 1 ++ (Lib.leBytes 4 (s.size + 8) ++ Lib.leBytes 8 (s.size + 8) ++ (bl s ++ Lib.leBytes 8 off))))), .bool true]) ∧ Below w.heap.size w w' := by
  have HCI := Kp.mk (fun w he => cidIn_calls v codec code s w h (by omega) he)
  have HLD := Kp.mk (fun ip gm clk0 gi oi ci w hip hgm hi0 hi1 he => mwLoad_calls ip gm clk0 gi oi ci v codec code off s w hip hgm hi0 hi1 h hs hoff he)
  have HX := Kp.mk (And.intro he hs)
  have HCD : Kp (code < 2 ^ 64) := ⟨by rcases h with ⟨_, _, rfl, _⟩ | ⟨_, _, h⟩ <;> omega⟩
  have HE0 := Kp.mk (And.intro he0 (And.intro he1 (And.intro he2 (And.intro he3 he4))))
  obtain ⟨S, hS⟩ : ∃ S, S = strB (cidB v codec code s) := ⟨_, rfl⟩
  rw [← hS] at HCI HLD
  clear he0 he1 he2 he3 he4 h hs hoff he hS
  go_enter Tryz.func9, Tryz.ntmps9
  go_wp2_with fail
  refine (newA_calls w).mono ?_
  rintro e u1 ⟨⟨ip, gm, rfl, hip, hgm, hci, hmg⟩, hb⟩
  have HB1 := Kp.mk hb
  have HI1 := Kp.mk (And.intro hci hmg)
  have HLE := Kp.mk (And.intro hip hgm)
  have c0 := cell_bel hb HE0.out.1
  have c1 := cell_bel hb HE0.out.2.1
  have c2 := cell_bel hb HE0.out.2.2.1
  have c3 := cell_bel hb HE0.out.2.2.2.1
  have c4 := cell_bel hb HE0.out.2.2.2.2
  have hal := bel_alloc (Below.refl u1.heap.size u1) (.cells #[.int .u64 v, .int .u64 codec, .int .u64 code, .string s, .int .u64 off] 26)
  have HN2 := Kp.mk (blk_new (w := u1) (o := .cells #[.int .u64 v, .int .u64 codec, .int .u64 code, .string s, .int .u64 off] 26) (Below.refl _ _))
  have HB2 := Kp.mk (bel_then hb hal)
  have HI2 := Kp.mk (And.intro (cell_bel hal hci) (blk_keep hmg hal))
  clear hip hgm hci hmg hb hal HE0 HI1
  go_wp2_with fail
  refine wp_loop_rounds 2 ?_
  rw [rounds_succ]
  go_wp2_with fail
  clear c0 c1 c2 c3 c4
  obtain ⟨eb, heb⟩ : ∃ q, q = u1.heap.size := ⟨_, rfl⟩
  rw [← heb] at HN2 ⊢
  clear heb
  generalize u1.alloc (.cells #[.int .u64 v, .int .u64 codec, .int .u64 code, .string s, .int .u64 off] 26) = u2 at *
  refine (HCI.out u2 (HX.out.1.below HB2.out)).mono ?_
  rintro e u3 ⟨rfl, hb⟩
  have hal := bel_alloc (Below.refl u3.heap.size u3) (.cells #[.string S] 44)
  have hal2 := bel_alloc hal (.cells #[.string S, .int .u64 off] 48)
  have hbb := bel_then hb hal2
  have c4 := blk_cell (blk_keep HN2.out hb) 4
  have c4' := blk_cell (blk_keep HN2.out (bel_then hb hal)) 4
  obtain ⟨ga, cap', u6, hap, hg0, hg1, hb6⟩ := appRecN ((u3.alloc (.cells #[.string S] 44)).alloc (.cells #[.string S, .int .u64 off] 48)) (u3.heap.size + 1) off S (blk_new2 (w := u3) (o := .cells #[.string S] 44) (o2 := .cells #[.string S, .int .u64 off] 48) (Below.refl _ _))
  have hb26 := bel_then hbb hb6
  have HB6 := Kp.mk (bel_then HB2.out hb26)
  have hip6 := cell_bel hb26 HI2.out.1
  have hgm6 := blk_keep HI2.out.2 hb26
  have HL := Kp.mk (HLD.out ip gm 0 ga 0 cap' u6 hip6 hgm6 hg0 hg1 (HX.out.1.below HB6.out))
  have HI6 := Kp.mk (And.intro hip6 hgm6)
  have HAP := Kp.mk hap
  have hmm : ∀ W, (method 318 69 (.pointer (some ⟨ip, 0, none⟩)) "Load").run Tryz.prog W = .ok (63, .pointer (some ⟨ip, 0, none⟩)) W := fun _ => by kernel_rfl
  clear hb hal hal2 hbb hap hg0 hg1 hb6 hb26 hip6 hgm6 HCI HLD HN2 HI2 HB2 HB1
  go_wp2_with (at_builtin; refine Lib.wpList_append_run _ rfl _ _ _ _ rfl _ _ rfl rfl _ _ HAP.out ?_)
  clear HAP c4 c4'
  rw [rounds_succ]
  go_wp2_with fail
  refine HL.out.mono ?_
  rintro e u7 ⟨rfl, ⟨gI, hgI, hgm7, hrd⟩, hx⟩
  have hne : ¬ ip = gm := by
    rintro rfl
    have := HI6.out.1
    simp [World.cell?, HI6.out.2] at this
  have hip7 := hx.cell HI6.out.1 hne
  have hgl : gI < u7.heap.size := by
    obtain ⟨g', o', e', hc⟩ := hrd.lies (by omega)
    simp only [Option.some.injEq, Addr.mk.injEq] at e'
    obtain ⟨rfl, rfl, _⟩ := e'
    exact World.block_lt_of_cell? u7 _ (hc 0 (by rw [hrd.len]; omega))
  have HW := Kp.mk (writtenA_calls ip gm (s.size + 8) 1 gI 0 (s.size + 8) (s.size + 8) _ u7 ⟨hip7, ⟨0, 0 + 1, by omega, hgm7⟩, hrd, ⟨World.block_lt_of_cell? u7 _ hip7, (Array.getElem?_eq_some_iff.1 hgm7).1, hgl⟩⟩ (by omega) (by have := HX.out.2; omega) (by have := HX.out.2; omega))
  have HB7 : Kp (Below w.heap.size w u7) := ⟨HB6.out.trans (hx.toBelow (fun j hj e => by have := HLE.out.2; omega) HB6.out.size)⟩
  clear hgI hgm7 hrd hx hne hip7 hgl HL hmm
  go_wp2_with fail
  refine HW.out.mono ?_
  rintro e u8 ⟨rfl, hb⟩
  have HB8 := Kp.mk (bel_then HB7.out hb)
  clear hb HW HB7
  go_wp2_with fail
  refine bodyPost_ret (results_tmp2 rfl _ _ _) rfl ?_
  exact ⟨rfl, HB8.out⟩

set_option maxHeartbeats 8000000 in
set_option maxRecDepth 100000 in
/-- impl.indexBytes. -/
theorem ixBytesB_calls (gE oE cE v codec code off : Nat) (s : ByteArray) (w : World) (he0 : w.cell? ⟨gE, oE, none⟩ = some (.int .u64 v)) (he1 : w.cell? ⟨gE, oE + 1, none⟩ = some (.int .u64 codec)) (he2 : w.cell? ⟨gE, oE + 2, none⟩ = some (.int .u64 code)) (he3 : w.cell? ⟨gE, oE + 3, none⟩ = some (.string s)) (he4 : w.cell? ⟨gE, oE + 4, none⟩ = some (.int .u64 off)) (h : Tidy v codec code s) (hs : s.size ≤ 1000) (hoff : off < 2 ^ 64) (he : MhErrs w) :
    Calls Tryz.prog 9 #[.slice (some ⟨gE, oE, none⟩) 1 cE, .int .u64 1025] w fun e w' => e = .returned (.tuple #[.string (strB ([129, 8] ++ (Lib.leBytes 4 1 ++ (Lib.leBytes 8 code ++ Lib.leBytes 4 1 ++ (Lib.leBytes 4 (s.size + 8) ++ Lib.leBytes 8 (s.size + 8) ++ (bl s ++ Lib.leBytes 8 off)))))), .bool true]) ∧ Below w.heap.size w w' := by
  have HCI := Kp.mk (fun w he => cidIn_calls v codec code s w h (by omega) he)
  have HLD := Kp.mk (fun ip gm clk0 gi oi ci w hip hgm hi0 hi1 he => mhLoad_calls ip gm clk0 gi oi ci v codec code off s w hip hgm hi0 hi1 h hs hoff he)
  have HX := Kp.mk (And.intro he hs)
  have HCD : Kp (code < 2 ^ 64) := ⟨by rcases h with ⟨_, _, rfl, _⟩ | ⟨_, _, h⟩ <;> omega⟩
  have HE0 := Kp.mk (And.intro he0 (And.intro he1 (And.intro he2 (And.intro he3 he4))))
  obtain ⟨S, hS⟩ : ∃ S, S = strB (cidB v codec code s) := ⟨_, rfl⟩
  rw [← hS] at HCI HLD
  clear he0 he1 he2 he3 he4 h hs hoff he hS
  go_enter Tryz.func9, Tryz.ntmps9
  go_wp2_with fail
  refine (newB_calls w).mono ?_
  rintro e u1 ⟨⟨ip, gm, rfl, hip, hgm, hci, hmg⟩, hb⟩
  have HB1 := Kp.mk hb
  have HI1 := Kp.mk (And.intro hci hmg)
  have HLE := Kp.mk (And.intro hip hgm)
  have c0 := cell_bel hb HE0.out.1
  have c1 := cell_bel hb HE0.out.2.1
  have c2 := cell_bel hb HE0.out.2.2.1
  have c3 := cell_bel hb HE0.out.2.2.2.1
  have c4 := cell_bel hb HE0.out.2.2.2.2
  have hal := bel_alloc (Below.refl u1.heap.size u1) (.cells #[.int .u64 v, .int .u64 codec, .int .u64 code, .string s, .int .u64 off] 26)
  have HN2 := Kp.mk (blk_new (w := u1) (o := .cells #[.int .u64 v, .int .u64 codec, .int .u64 code, .string s, .int .u64 off] 26) (Below.refl _ _))
  have HB2 := Kp.mk (bel_then hb hal)
  have HI2 := Kp.mk (And.intro (cell_bel hal hci) (blk_keep hmg hal))
  clear hip hgm hci hmg hb hal HE0 HI1
  go_wp2_with fail
  refine wp_loop_rounds 2 ?_
  rw [rounds_succ]
  go_wp2_with fail
  clear c0 c1 c2 c3 c4
  obtain ⟨eb, heb⟩ : ∃ q, q = u1.heap.size := ⟨_, rfl⟩
  rw [← heb] at HN2 ⊢
  clear heb
  generalize u1.alloc (.cells #[.int .u64 v, .int .u64 codec, .int .u64 code, .string s, .int .u64 off] 26) = u2 at *
  refine (HCI.out u2 (HX.out.1.below HB2.out)).mono ?_
  rintro e u3 ⟨rfl, hb⟩
  have hal := bel_alloc (Below.refl u3.heap.size u3) (.cells #[.string S] 44)
  have hal2 := bel_alloc hal (.cells #[.string S, .int .u64 off] 48)
  have hbb := bel_then hb hal2
  have c4 := blk_cell (blk_keep HN2.out hb) 4
  have c4' := blk_cell (blk_keep HN2.out (bel_then hb hal)) 4
  obtain ⟨ga, cap', u6, hap, hg0, hg1, hb6⟩ := appRecN ((u3.alloc (.cells #[.string S] 44)).alloc (.cells #[.string S, .int .u64 off] 48)) (u3.heap.size + 1) off S (blk_new2 (w := u3) (o := .cells #[.string S] 44) (o2 := .cells #[.string S, .int .u64 off] 48) (Below.refl _ _))
  have hb26 := bel_then hbb hb6
  have HB6 := Kp.mk (bel_then HB2.out hb26)
  have hip6 := cell_bel hb26 HI2.out.1
  have hgm6 := blk_keep HI2.out.2 hb26
  have HL := Kp.mk (HLD.out ip gm 0 ga 0 cap' u6 hip6 hgm6 hg0 hg1 (HX.out.1.below HB6.out))
  have HI6 := Kp.mk (And.intro hip6 hgm6)
  have HAP := Kp.mk hap
  have hmm : ∀ W, (method 318 52 (.pointer (some ⟨ip, 0, none⟩)) "Load").run Tryz.prog W = .ok (58, .pointer (some ⟨ip, 0, none⟩)) W := fun _ => by kernel_rfl
  clear hb hal hal2 hbb hap hg0 hg1 hb6 hb26 hip6 hgm6 HCI HLD HN2 HI2 HB2 HB1
  go_wp2_with (at_builtin; refine Lib.wpList_append_run _ rfl _ _ _ _ rfl _ _ rfl rfl _ _ HAP.out ?_)
  clear HAP c4 c4'
  rw [rounds_succ]
  go_wp2_with fail
  refine HL.out.mono ?_
  rintro e u7 ⟨rfl, ⟨gI, ic, gw, hgI, hic, hgw, hgm7, hc0, hc1, hgw7, hrd⟩, hx⟩
  have hne : ¬ ip = gm := by
    rintro rfl
    have := HI6.out.1
    simp [World.cell?, HI6.out.2] at this
  have hip7 := hx.cell HI6.out.1 hne
  have hgl : gI < u7.heap.size := by
    obtain ⟨g', o', e', hc⟩ := hrd.lies (by omega)
    simp only [Option.some.injEq, Addr.mk.injEq] at e'
    obtain ⟨rfl, rfl, _⟩ := e'
    exact World.block_lt_of_cell? u7 _ (hc 0 (by rw [hrd.len]; omega))
  have HW := Kp.mk (writtenB_calls ip gm ic code gw (s.size + 8) 1 gI 0 (s.size + 8) (s.size + 8) _ u7 ⟨hip7, ⟨0, 0 + 1, by omega, hgm7⟩, ⟨hc1, hc0, ⟨0, 0 + 1, by omega, hgw7⟩, hrd, ⟨World.block_lt_of_cell? u7 _ hc0, (Array.getElem?_eq_some_iff.1 hgw7).1, hgl⟩⟩, ⟨World.block_lt_of_cell? u7 _ hip7, (Array.getElem?_eq_some_iff.1 hgm7).1⟩⟩ HCD.out (by omega) (by have := HX.out.2; omega) (by have := HX.out.2; omega))
  have HB7 : Kp (Below w.heap.size w u7) := ⟨HB6.out.trans (hx.toBelow (fun j hj e => by have := HLE.out.2; omega) HB6.out.size)⟩
  clear hgI hic hgw hgm7 hc0 hc1 hgw7 hrd hx hne hip7 hgl HL hmm
  go_wp2_with fail
  refine HW.out.mono ?_
  rintro e u8 ⟨rfl, hb⟩
  have HB8 := Kp.mk (bel_then HB7.out hb)
  clear hb HW HB7
  go_wp2_with fail
  refine bodyPost_ret (results_tmp2 rfl _ _ _) rfl ?_
  exact ⟨rfl, HB8.out⟩

end Go.Proofs.YtnhnkfdhkifahaaGreatDoor
