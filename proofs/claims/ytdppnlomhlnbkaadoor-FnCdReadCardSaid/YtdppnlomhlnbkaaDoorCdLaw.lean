/- The walk of laws.FnCdRead. -/
import Derived.Test.YtdppnlomhlnbkaaDoorCdOne
import Derived.Test.YtdppnlomhlnbkaaDoorSpecCd
import Derived.Test.YtdppnlomhlnbkaaDoorUvLaid
namespace Go.Proofs.YtdppnlomhlnbkaaDoor
open Go.RowKit

set_option maxHeartbeats 4000000 in
set_option maxRecDepth 100000 in
/-- laws.FnCdRead. -/
theorem cdRead_walk (s : ByteArray) (w : World) (hs : s.size ≤ 9223372036854775807) (he : CdErrs w) :
    Calls Tryd.prog 3 #[.string s] w fun e w' => e = .returned (.bool true) ∧ Below w.heap.size w w' := by
  by_cases h1 : s.size ≤ 2147483647
  · by_cases h3 : s.size ≤ 4096
    · have HE := Kp.mk he
      have HO := Kp.mk cdOne_calls
      have HS := Kp.mk (fun w => specCd_calls s w h1)
      have HC := Kp.mk (fun w he => cdRd_calls s w h1 he)
      clear he hs
      go_enter Tryd.func3, Tryd.ntmps3
      go_wp2_with fail
      refine (HS.out _).mono ?_
      rintro e w1 ⟨hu, hb⟩
      have HB1 := Kp.mk hb
      unfold CrEnd at hu
      clear hb HS
      cases hm : cdRead (bl s) with
      | none =>
        have HM := Kp.mk hm
        rw [hm] at hu
        simp only at hu
        subst hu
        clear hm
        have HB1' := Kp.mk (fun o => bel_alloc HB1.out o)
        go_wp2_with fail
        refine (HC.out _ (HE.out.below (HB1'.out _))).mono ?_
        rintro e w2 ⟨hu, hb⟩
        have HB2 := Kp.mk (bel_then HB1.out (bel_new hb))
        have hg := blk_new hb
        clear hb HC HB1'
        unfold CrEnd at hu
        rw [HM.out] at hu
        simp only at hu
        subst hu
        clear hg
        have HB2' := Kp.mk (fun o => bel_alloc HB2.out o)
        go_wp2_with fail
        refine (HO.out _ (HE.out.below (HB2'.out _))).mono ?_
        rintro e w3 ⟨rfl, hb⟩
        have HB3 := Kp.mk (bel_then HB2.out (bel_new hb))
        clear hb HB2'
        go_wp2
        go_ret
        exact ⟨rfl, HB3.out⟩
      | some p =>
        obtain ⟨v, codec, code, d, n⟩ := p
        have HM := Kp.mk hm
        rw [hm] at hu
        simp only at hu
        subst hu
        clear hm
        have HB1' := Kp.mk (fun o => bel_alloc HB1.out o)
        go_wp2_with fail
        refine (HC.out _ (HE.out.below (HB1'.out _))).mono ?_
        rintro e w2 ⟨hu, hb⟩
        have HB2 := Kp.mk (bel_then HB1.out (bel_new hb))
        have hg := blk_new hb
        clear hb HC HB1'
        unfold CrEnd at hu
        rw [HM.out] at hu
        simp only at hu
        subst hu
        have c0 := fun o => blk_cell (blk_keep hg (bel_alloc (Below.refl _ _) o)) 0
        have c1 := fun o => blk_cell (blk_keep hg (bel_alloc (Below.refl _ _) o)) 1
        have c2 := fun o => blk_cell (blk_keep hg (bel_alloc (Below.refl _ _) o)) 2
        have c3 := fun o => blk_cell (blk_keep hg (bel_alloc (Below.refl _ _) o)) 3
        clear hg
        have HB2' := Kp.mk (fun o => bel_alloc HB2.out o)
        go_wp2_with fail
        refine (HO.out _ (HE.out.below (HB2'.out _))).mono ?_
        rintro e w3 ⟨rfl, hb⟩
        have HB3 := Kp.mk (bel_then HB2.out (bel_new hb))
        clear hb HB2' c0 c1 c2 c3
        go_wp2
        go_ret
        exact ⟨rfl, HB3.out⟩
    · go_enter Tryd.func3, Tryd.ntmps3
      go_wp2
      go_ret
      exact ⟨rfl, Below.refl _ _⟩
  · go_enter Tryd.func3, Tryd.ntmps3
    go_wp2
    go_ret
    exact ⟨rfl, Below.refl _ _⟩

end Go.Proofs.YtdppnlomhlnbkaaDoor
