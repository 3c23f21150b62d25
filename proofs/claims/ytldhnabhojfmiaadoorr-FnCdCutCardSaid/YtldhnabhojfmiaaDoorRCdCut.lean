/- The walks of cid.Cast and impl.CdCast of what is no identifier, and of laws.FnCdCut. -/
import Derived.Test.YtldhnabhojfmiaaDoorRCrd
import Derived.Test.YtldhnabhojfmiaaDoorRCdOne
import Derived.Test.YtldhnabhojfmiaaDoorRTidy
namespace Go.Proofs.YtldhnabhojfmiaaDoorR
open Go.RowKit

set_option maxHeartbeats 4000000 in
set_option maxRecDepth 100000 in
/-- cid.Cast of what is no identifier. -/
theorem castNone_calls (A : Option Addr) (n c : Nat) (bs : List UInt8) (w : World) (hr : RdB w A n c bs) (he : CdErrs w) (hn : n ≤ 2147483647) (hm : cdRead bs = none) :
    Calls Tryd.prog 40 #[.slice A n c] w fun e w' => (∃ s T u, e = .returned (.tuple #[.agg #[.string s], .iface T u])) ∧ Below w.heap.size w w' := by
  obtain ⟨su, hsu⟩ := he.undef
  have HF := Kp.mk (fun ob => cidFrom_calls A n c bs (w.alloc ob) (hr.below (bel_alloc (Below.refl _ _) ob)) (he.below (bel_alloc (Below.refl _ _) ob)) hn)
  have HU := Kp.mk hsu
  have HM := Kp.mk hm
  clear hr he hsu hm
  go_enter Tryd.func40, Tryd.ntmps40
  go_wp2_with fail
  refine (HF.out _).mono ?_
  rintro e w1 ⟨hu, hb⟩
  have HB1 := Kp.mk (bel_new hb)
  have HG1 := Kp.mk (blk_new hb)
  unfold CfEnd at hu
  rw [HM.out] at hu
  obtain ⟨v, s1, T, u, _, rfl⟩ := hu
  clear hb HF
  have c1 := fun ob => cell_bel (bel_alloc HB1.out ob) HU.out
  have g0 := fun ob => blk_cell (blk_keep HG1.out (bel_alloc (Below.refl _ _) ob)) 0
  have f0 := fun ob => blk_frozen (blk_keep HG1.out (bel_alloc (Below.refl _ _) ob)) 0
  go_wp2_with fail
  refine bodyPost_ret (res_cell2 rfl _ _ w.heap.size 56 #[.string su] _ rfl (blk_set (blk_keep HG1.out (bel_alloc (Below.refl _ _) _)) 0 _) Tryd.underlying56 rfl (by kernel_rfl)) rfl ?_
  exact ⟨⟨_, _, _, rfl⟩, bel_set (bel_alloc HB1.out _) (Nat.le_refl _) _⟩

set_option maxHeartbeats 4000000 in
set_option maxRecDepth 100000 in
/-- impl.CdCast of what is no identifier. -/
theorem cdCastNone_calls (s : ByteArray) (w : World) (hs : s.size ≤ 2147483647) (he : CdErrs w) (hm : cdRead (bl s) = none) :
    Calls Tryd.prog 21 #[.string s] w fun e w' => (∃ x y z t, e = .returned (.tuple #[.agg #[.int .u64 x, .int .u64 y, .int .u64 z, .string t], .bool false])) ∧ Below w.heap.size w w' := by
  have hkb := fun W => Lib.run_convert_string_bytes (P := Tryd.prog) W 9 71 5 s Tryd.underlying9 Tryd.underlying71 Tryd.underlying5
  have HX := Kp.mk hs
  have HE := Kp.mk he
  have HM := Kp.mk hm
  clear hs he hm
  go_enter Tryd.func21, Tryd.ntmps21
  go_wp2_with fail
  generalize hW0 : w.alloc _ = W0
  have hr0 : W0.heap[w.heap.size]? = some (.cells #[.int .u64 0, .int .u64 0, .int .u64 0, .string ⟨#[]⟩] 25 (0, 0)) := by rw [← hW0]; exact blk_new (Below.refl _ _)
  have hb0 : Below w.heap.size w W0 := by rw [← hW0]; exact bel_alloc (Below.refl _ _) _
  have hs0 : W0.heap.size = w.heap.size + 1 := by rw [← hW0]; simp [World.alloc, -World.alloc_eq]
  have hrd := rd_bytes W0 5 s (by have := HX.out; omega)
  rw [hs0] at hrd
  generalize hgc : grownCap W0 s.size 0 5 = gc at *
  have hb1 : Below W0.heap.size W0 (Lib.bytesWorld W0 5 s) := bel_bytes (Below.refl _ _) _ _
  generalize hW1 : Lib.bytesWorld W0 5 s = W1 at *
  have HF := Kp.mk (castNone_calls _ _ _ _ W1 hrd (HE.out.below (bel_then hb0 hb1)) HX.out HM.out)
  have HR1 := Kp.mk (blk_keep hr0 hb1)
  have HB1 := Kp.mk (bel_then hb0 hb1)
  clear hW0 hr0 hb0 hrd hb1 hW1 hkb hs0 hgc
  refine HF.out.mono ?_
  rintro e w2 ⟨⟨s1, T, u, rfl⟩, hb⟩
  have HR2 := Kp.mk (blk_keep HR1.out hb)
  have HB2 := Kp.mk (bel_then HB1.out hb)
  clear hb HF HR1 HB1
  have hb0 := fun ob => blk_cell (blk_keep HR2.out (bel_alloc (Below.refl _ _) ob)) 0
  have hf0 := fun ob => blk_frozen (blk_keep HR2.out (bel_alloc (Below.refl _ _) ob)) 0
  have hb1 := fun ob => blk_cell (blk_keep HR2.out (bel_alloc (Below.refl _ _) ob)) 1
  have hf1 := fun ob => blk_frozen (blk_keep HR2.out (bel_alloc (Below.refl _ _) ob)) 1
  have hb2 := fun ob => blk_cell (blk_keep HR2.out (bel_alloc (Below.refl _ _) ob)) 2
  have hf2 := fun ob => blk_frozen (blk_keep HR2.out (bel_alloc (Below.refl _ _) ob)) 2
  have hb3 := fun ob => blk_cell (blk_keep HR2.out (bel_alloc (Below.refl _ _) ob)) 3
  have hf3 := fun ob => blk_frozen (blk_keep HR2.out (bel_alloc (Below.refl _ _) ob)) 3
  go_wp2_with fail
  refine bodyPost_ret (res_cell2 rfl _ _ w.heap.size 25 #[.int .u64 0, .int .u64 0, .int .u64 0, .string ⟨#[]⟩] _ rfl (blk_set (blk_set (blk_set (blk_set (blk_keep HR2.out (bel_alloc (Below.refl _ _) _)) 0 _) 1 _) 2 _) 3 _) Tryd.underlying25 rfl (by kernel_rfl)) rfl ?_
  exact ⟨⟨0, 0, 0, ⟨#[]⟩, rfl⟩, bel_set (bel_set (bel_set (bel_set (bel_alloc HB2.out _) (Nat.le_refl _) _) (Nat.le_refl _) _) (Nat.le_refl _) _) (Nat.le_refl _) _⟩

set_option maxHeartbeats 8000000 in
set_option maxRecDepth 100000 in
/-- laws.FnCdCut. -/
theorem cdCut_walk (v codec code cut : Nat) (s : ByteArray) (w : World) (hc : cut < 65536) (_hs : s.size ≤ 9223372036854775807) (he : CaErrs w) :
    Calls Tryd.prog 6 #[.agg #[.int .u64 v, .int .u64 codec, .int .u64 code, .string s], .int .u16 cut] w fun e w' => e = .returned (.bool true) ∧ Below w.heap.size w w' := by
  have HF := Kp.mk (fun w => fits1_calls v codec code s w)
  have HG := Kp.mk (fun w => good_calls v codec code s w)
  have HE := Kp.mk he
  clear he
  go_enter Tryd.func6, Tryd.ntmps6
  go_wp2_with fail
  refine (HF.out _).mono ?_
  rintro e w1 ⟨rfl, hb⟩
  have HB1 := Kp.mk (bel_new hb)
  have HK1 := Kp.mk (blk_new hb)
  clear hb HF
  by_cases h1 : s.size ≤ 2147483647
  case neg =>
    rw [decide_eq_false h1]
    go_wp2_with fail
    go_ret
    exact ⟨rfl, HB1.out⟩
  rw [decide_eq_true h1]
  have c0 := blk_cell HK1.out 0
  have c1 := blk_cell HK1.out 1
  have c2 := blk_cell HK1.out 2
  have c3 := blk_cell HK1.out 3
  go_wp2_with fail
  clear c0 c1 c2 c3
  refine (HG.out _).mono ?_
  rintro e w2 ⟨rfl, hb⟩
  have HB2 := Kp.mk (bel_then HB1.out hb)
  have HK2 := Kp.mk (blk_keep HK1.out hb)
  clear hb HG HB1 HK1
  by_cases h2 : s.size ≤ 4096 ∧ Tidy v codec code s
  case neg =>
    rw [decide_eq_false h2]
    go_wp2_with fail
    go_ret
    exact ⟨rfl, HB2.out⟩
  rw [decide_eq_true h2]
  obtain ⟨h3, hT⟩ := h2
  have hl := hT.len (by omega)
  have HC := Kp.mk (fun w he => cdBy_calls v codec code s w hT (by omega) he)
  obtain ⟨B, hB⟩ : ∃ B, B = cidB v codec code s := ⟨_, rfl⟩
  rw [← hB] at HC hl
  have HCUT := Kp.mk (fun j hj => by rw [hB] at hj ⊢; exact hT.cut (by omega) j hj : ∀ j, j < B.length → cdRead (B.take j) = none)
  have hsz := strB_size B
  have HL := Kp.mk hl
  have HZ := Kp.mk hsz
  clear hT hB hl hsz
  have c0 := blk_cell HK2.out 0
  have c1 := blk_cell HK2.out 1
  have c2 := blk_cell HK2.out 2
  have c3 := blk_cell HK2.out 3
  go_wp2_with fail
  clear c0 c1 c2 c3
  refine (HC.out _ (HE.out.below HB2.out).cd.mh).mono ?_
  rintro e w3 ⟨rfl, hb⟩
  have HB3 := Kp.mk (bel_then HB2.out hb)
  clear hb HC HB2 HK2
  obtain ⟨S, hS⟩ : ∃ S, S = strB B := ⟨_, rfl⟩
  rw [← hS] at HZ ⊢
  have HS := Kp.mk hS
  clear hS
  have hpos : 0 < S.size := by have := HZ.out; have := HL.out; omega
  have hSl : S.size ≤ 8192 := by have := HZ.out; have := HL.out; omega
  have hB0 : S.toList.isEmpty = false := by
    rw [List.isEmpty_eq_false_iff, ByteArray.toList_eq]
    intro h
    have : S.size = 0 := by rw [← bl_length, bl, h]; rfl
    omega
  have hm1 : 0 ≤ (cut : Int) % (S.size : Int) := Int.emod_nonneg _ (by omega)
  have hm2 : (cut : Int) % (S.size : Int) < (S.size : Int) := Int.emod_lt_of_pos _ (by omega)
  obtain ⟨R, hR⟩ : ∃ R, R = S.extract 0 (cut % S.size) := ⟨_, rfl⟩
  have hRn : cdRead (bl R) = none := by
    rw [hR, head_bl, HS.out, bl_strB]
    exact HCUT.out _ (by have := Nat.mod_lt cut hpos; rw [HZ.out] at this; exact this)
  have hRs : R.size ≤ 8192 := by
    rw [← bl_length, hR, head_bl, List.length_take, bl_length]; omega
  have H1 := Kp.mk (fun w he => cdRd_calls R w (by omega) he)
  have H2 := Kp.mk (fun w he => cdReader_calls R w (by omega) he)
  have H3 := Kp.mk (fun w he => cdCastNone_calls R w (by omega) he hRn)
  have HN := Kp.mk hRn
  have HR := Kp.mk hR
  clear hR hRn hRs hSl
  go_wp2_with fail
  rw [← HR.out]
  refine (H1.out _ (HE.out.below HB3.out).cd).mono ?_
  rintro e w4 ⟨hu, hb⟩
  unfold CrEnd at hu
  rw [HN.out] at hu
  simp only at hu
  subst hu
  have HB4 := Kp.mk (bel_then HB3.out hb)
  have HB4' := Kp.mk (fun o => bel_alloc HB4.out o)
  clear hb H1 hpos hB0 hm1 hm2
  go_wp2_with fail
  refine (H2.out _ (HE.out.below (HB4'.out _))).mono ?_
  rintro e w5 ⟨hu, hb⟩
  unfold CreEnd at hu
  rw [HN.out] at hu
  have HB5 := Kp.mk (bel_then (HB4'.out _) hb)
  have HB5' := Kp.mk (fun o => bel_alloc HB5.out o)
  clear hb H2
  obtain ⟨z, rfl | rfl⟩ := hu
  · go_wp2_with fail
    refine (H3.out _ (HE.out.below (HB5'.out _)).cd).mono ?_
    rintro e w6 ⟨⟨a1, a2, a3, a4, rfl⟩, hb⟩
    have HB6 := Kp.mk (bel_then (HB5'.out _) hb)
    have HB6' := Kp.mk (fun o => bel_alloc HB6.out o)
    clear hb H3
    go_wp2_with fail
    refine (cdOne_calls _ (HE.out.below (HB6'.out _)).cd).mono ?_
    rintro e w7 ⟨rfl, hb⟩
    have HB7 := Kp.mk (bel_then (HB6'.out _) hb)
    clear hb
    go_wp2
    go_ret
    exact ⟨rfl, HB7.out⟩
  · go_wp2_with fail
    refine (H3.out _ (HE.out.below (HB5'.out _)).cd).mono ?_
    rintro e w6 ⟨⟨a1, a2, a3, a4, rfl⟩, hb⟩
    have HB6 := Kp.mk (bel_then (HB5'.out _) hb)
    have HB6' := Kp.mk (fun o => bel_alloc HB6.out o)
    clear hb H3
    go_wp2_with fail
    refine (cdOne_calls _ (HE.out.below (HB6'.out _)).cd).mono ?_
    rintro e w7 ⟨rfl, hb⟩
    have HB7 := Kp.mk (bel_then (HB6'.out _) hb)
    clear hb
    go_wp2
    go_ret
    exact ⟨rfl, HB7.out⟩

end Go.Proofs.YtldhnabhojfmiaaDoorR
