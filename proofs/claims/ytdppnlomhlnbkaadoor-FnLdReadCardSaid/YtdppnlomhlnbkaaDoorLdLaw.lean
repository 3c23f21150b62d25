/- The walk of laws.FnLdRead. -/
import Derived.Test.YtdppnlomhlnbkaaDoorLdOne
import Derived.Test.YtdppnlomhlnbkaaDoorSpecLong
namespace Go.Proofs.YtdppnlomhlnbkaaDoor
open Go.RowKit

set_option maxHeartbeats 8000000 in
set_option maxRecDepth 100000 in
/-- laws.FnLdRead. -/
theorem ldRead_walk (s : ByteArray) (ze : Bool) (most : Nat) (w : World) (hs : s.size ≤ 9223372036854775807) (hmb : most < 18446744073709551616) (he : LdErrs w) :
    Calls Tryd.prog 6 #[.string s, .bool ze, .int .u64 most] w fun e w' => e = .returned (.bool true) ∧ Below w.heap.size w w' := by
  by_cases h1 : s.size ≤ 2147483647
  · by_cases h3 : s.size ≤ 16384
    · by_cases h4 : most ≤ 33554432
      · have HE := Kp.mk he
        have HO := Kp.mk ldOne_calls
        have HS := Kp.mk (fun w => specLong_calls s ze most w h1 h4)
        clear he hs hmb
        go_enter Tryd.func6, Tryd.ntmps6
        go_wp2_with fail
        refine (HS.out _).mono ?_
        rintro e w1 ⟨hu, hb⟩
        have HB1 := Kp.mk hb
        clear hb HS
        cases hm : longRead (bl s) ze most with
        | left =>
          rw [hm] at hu
          obtain rfl : e = _ := hu
          clear hm
          go_wp2
          go_ret
          exact ⟨rfl, bel_alloc HB1.out _⟩
        | ended k =>
          have HM := Kp.mk hm
          rw [hm] at hu
          obtain rfl : e = _ := hu
          have HB1' := Kp.mk (fun o => bel_alloc HB1.out o)
          have HC := Kp.mk (fun w he => implLd_calls' s ze most w h1 h4 (by rw [HM.out]; exact fun h => by cases h) he)
          clear hm
          go_wp2_with fail
          refine (HC.out _ (HE.out.below (HB1'.out _))).mono ?_
          rintro e w2 ⟨hu, hb⟩
          have HB2 := Kp.mk (bel_then HB1.out (bel_new hb))
          have hg := blk_new hb
          clear hb HC HB1'
          rw [HM.out] at hu
          obtain ⟨a, b, rfl⟩ := hu
          have c0 := blk_cell hg 0
          have c1 := blk_cell hg 1
          have c2 := blk_cell hg 2
          clear hg
          go_wp2_with fail
          refine (HO.out _ (HE.out.below HB2.out)).mono ?_
          rintro e w3 ⟨rfl, hb⟩
          have HB3 := Kp.mk (bel_then HB2.out hb)
          clear hb c0 c1 c2
          go_wp2
          go_ret
          exact ⟨rfl, HB3.out⟩
        | failed =>
          have HM := Kp.mk hm
          rw [hm] at hu
          obtain rfl : e = _ := hu
          have HB1' := Kp.mk (fun o => bel_alloc HB1.out o)
          have HC := Kp.mk (fun w he => implLd_calls' s ze most w h1 h4 (by rw [HM.out]; exact fun h => by cases h) he)
          clear hm
          go_wp2_with fail
          refine (HC.out _ (HE.out.below (HB1'.out _))).mono ?_
          rintro e w2 ⟨hu, hb⟩
          have HB2 := Kp.mk (bel_then HB1.out (bel_new hb))
          have hg := blk_new hb
          clear hb HC HB1'
          rw [HM.out] at hu
          obtain ⟨a, b, rfl⟩ := hu
          have c0 := blk_cell hg 0
          have c1 := blk_cell hg 1
          have c2 := blk_cell hg 2
          clear hg
          go_wp2_with fail
          refine (HO.out _ (HE.out.below HB2.out)).mono ?_
          rintro e w3 ⟨rfl, hb⟩
          have HB3 := Kp.mk (bel_then HB2.out hb)
          clear hb c0 c1 c2
          go_wp2
          go_ret
          exact ⟨rfl, HB3.out⟩
        | read d N =>
          have HM := Kp.mk hm
          rw [hm] at hu
          obtain rfl : e = _ := hu
          have HB1' := Kp.mk (fun o => bel_alloc HB1.out o)
          have HC := Kp.mk (fun w he => implLd_calls' s ze most w h1 h4 (by rw [HM.out]; exact fun h => by cases h) he)
          clear hm
          go_wp2_with fail
          refine (HC.out _ (HE.out.below (HB1'.out _))).mono ?_
          rintro e w2 ⟨hu, hb⟩
          have HB2 := Kp.mk (bel_then HB1.out (bel_new hb))
          have hg := blk_new hb
          clear hb HC HB1'
          rw [HM.out] at hu
          obtain rfl : e = _ := hu
          have c0 := blk_cell hg 0
          have c1 := blk_cell hg 1
          have c2 := blk_cell hg 2
          clear hg
          go_wp2_with fail
          refine (HO.out _ (HE.out.below HB2.out)).mono ?_
          rintro e w3 ⟨rfl, hb⟩
          have HB3 := Kp.mk (bel_then HB2.out hb)
          clear hb c0 c1 c2
          go_wp2
          go_ret
          exact ⟨rfl, HB3.out⟩
      · go_enter Tryd.func6, Tryd.ntmps6
        go_wp2
        go_ret
        exact ⟨rfl, Below.refl _ _⟩
    · go_enter Tryd.func6, Tryd.ntmps6
      go_wp2
      go_ret
      exact ⟨rfl, Below.refl _ _⟩
  · go_enter Tryd.func6, Tryd.ntmps6
    go_wp2
    go_ret
    exact ⟨rfl, Below.refl _ _⟩

end Go.Proofs.YtdppnlomhlnbkaaDoor
