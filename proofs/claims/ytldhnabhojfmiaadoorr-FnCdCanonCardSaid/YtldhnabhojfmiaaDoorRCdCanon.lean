/- The walk of laws.FnCdCanon. -/
import Derived.Test.YtldhnabhojfmiaaDoorRCrd
import Derived.Test.YtldhnabhojfmiaaDoorRCdOne
import Derived.Test.YtldhnabhojfmiaaDoorRCdBy
namespace Go.Proofs.YtldhnabhojfmiaaDoorR
open Go.RowKit

set_option maxHeartbeats 8000000 in
set_option maxRecDepth 100000 in
/-- laws.FnCdCanon. -/
theorem cdCanon_walk (s : ByteArray) (w : World) (hs : s.size ≤ 9223372036854775807) (he : CaErrs w) :
    Calls Tryd.prog 5 #[.string s] w fun e w' => e = .returned (.bool true) ∧ Below w.heap.size w w' := by
  by_cases h1 : s.size ≤ 2147483647
  · by_cases h3 : s.size ≤ 4096
    · have HE := Kp.mk he
      have HO := Kp.mk cdOne_calls
      have HR := Kp.mk (fun w he => cdReader_calls s w (by omega) he)
      have HC := Kp.mk (cdRd_calls s w h1 he.cd)
      clear he hs
      go_enter Tryd.func5, Tryd.ntmps5
      go_wp2_with fail
      refine HC.out.mono ?_
      rintro e w1 ⟨hu, hb⟩
      have HB1 := Kp.mk hb
      unfold CrEnd at hu
      clear hb HC
      cases hm : cdRead (bl s) with
      | none =>
        have HM := Kp.mk hm
        rw [hm] at hu
        simp only at hu
        subst hu
        clear hm
        have HB1' := Kp.mk (fun o => bel_alloc HB1.out o)
        go_wp2_with fail
        refine (HR.out _ (HE.out.below (HB1'.out _))).mono ?_
        rintro e w2 ⟨hu, hb⟩
        have HB2 := Kp.mk (bel_then HB1.out (bel_new hb))
        have HB2' := Kp.mk (fun o => bel_alloc HB2.out o)
        clear hb HR HB1'
        unfold CreEnd at hu
        rw [HM.out] at hu
        obtain ⟨z, rfl | rfl⟩ := hu
        · go_wp2_with fail
          refine (HO.out _ (HE.out.below (HB2'.out _)).cd).mono ?_
          rintro e w3 ⟨rfl, hb⟩
          have HB3 := Kp.mk (bel_then HB2.out (bel_new hb))
          clear hb HB2'
          go_wp2
          go_ret
          exact ⟨rfl, HB3.out⟩
        · go_wp2_with fail
          refine (HO.out _ (HE.out.below (HB2'.out _)).cd).mono ?_
          rintro e w3 ⟨rfl, hb⟩
          have HB3 := Kp.mk (bel_then HB2.out (bel_new hb))
          clear hb HB2'
          go_wp2
          go_ret
          exact ⟨rfl, HB3.out⟩
      | some p =>
        obtain ⟨v, codec, code, d, n⟩ := p
        have HM := Kp.mk hm
        rw [hm] at hu
        simp only at hu
        subst hu
        have HBY := Kp.mk (fun w he => cdByRead_calls (bl s) v codec code n d w hm (by rw [bl_length]; omega) he)
        have hle := (cdRead_le hm).1
        rw [bl_length] at hle
        have hcut : s.extract 0 n = strB ((bl s).take n) := by rw [← strB_bl (s.extract 0 n), head_bl]
        have HCUT := Kp.mk (And.intro hcut hle)
        clear hm hcut hle
        have HB1' := Kp.mk (fun o => bel_alloc HB1.out o)
        go_wp2_with fail
        refine (HR.out _ (HE.out.below (HB1'.out _))).mono ?_
        rintro e w2 ⟨hu, hb⟩
        have HB2 := Kp.mk (bel_then HB1.out (bel_new hb))
        have HG2 := Kp.mk (blk_new hb)
        clear hb HR HB1'
        unfold CreEnd at hu
        rw [HM.out] at hu
        simp only at hu
        subst hu
        have HB2' := Kp.mk (fun o => bel_alloc HB2.out o)
        have c0 := fun o => blk_cell (blk_keep HG2.out (bel_alloc (Below.refl _ _) o)) 0
        have c1 := fun o => blk_cell (blk_keep HG2.out (bel_alloc (Below.refl _ _) o)) 1
        have c2 := fun o => blk_cell (blk_keep HG2.out (bel_alloc (Below.refl _ _) o)) 2
        have c3 := fun o => blk_cell (blk_keep HG2.out (bel_alloc (Below.refl _ _) o)) 3
        go_wp2_with fail
        clear c0 c1 c2 c3
        refine (HBY.out _ (HE.out.below (HB2'.out _)).cd.mh).mono ?_
        rintro e w3 ⟨rfl, hb⟩
        have HB3 := Kp.mk (bel_then HB2.out (bel_new hb))
        have hg1 := blk_keep (blk_keep HG2.out (bel_alloc (Below.refl _ _) _)) hb
        have hg2 := blk_new hb
        have c0 := blk_cell hg1 0
        have c1 := blk_cell hg1 1
        have c2 := blk_cell hg1 2
        have c3 := blk_cell hg1 3
        have b0 := blk_cell hg2 0
        have b1 := blk_cell hg2 1
        have b2 := blk_cell hg2 2
        have b3 := blk_cell hg2 3
        have hcut := HCUT.out.1
        have hle := HCUT.out.2
        clear hb hg1 hg2 HB2' HBY HG2
        go_wp2
        go_ret
        exact ⟨rfl, HB3.out⟩
    · go_enter Tryd.func5, Tryd.ntmps5
      go_wp2
      go_ret
      exact ⟨rfl, Below.refl _ _⟩
  · go_enter Tryd.func5, Tryd.ntmps5
    go_wp2
    go_ret
    exact ⟨rfl, Below.refl _ _⟩

end Go.Proofs.YtldhnabhojfmiaaDoorR
