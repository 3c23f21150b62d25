/- The walk of laws.FnSeRead. -/
import Derived.Test.YtdppnlomhlnbkaaDoorLdOne
import Derived.Test.YtdppnlomhlnbkaaDoorSeImpl
namespace Go.Proofs.YtdppnlomhlnbkaaDoor
open Go.RowKit

/-- What the laws about sections that are blocks need of the package-level variables. -/
structure SeErrs (w : World) : Prop where
  ld : LdErrs w
  cd : CdErrs w
theorem SeErrs.below {w w1 : World} (h : SeErrs w) (hb : Below w.heap.size w w1) : SeErrs w1 := ⟨h.ld.below hb, h.cd.below hb⟩
theorem implSe_calls' (s : ByteArray) (ze : Bool) (most : Nat) (w : World) (hs : s.size ≤ 2147483647) (hm : most ≤ 33554432) (hnl : longRead (bl s) ze most ≠ .left) (he : SeErrs w) :
    Calls Tryd.prog 21 #[.string s, .bool ze, .int .u64 most] w fun e w' => SiEnd (longRead (bl s) ze most) e ∧ Below w.heap.size w w' := by
  obtain ⟨⟨⟨ve, vu, vo, vn, h1⟩, v, h2, h3⟩, h4⟩ := he
  exact implSe_calls s ze most ve vu vo vn v w hs hm hnl h1 h4 h2 h3

set_option maxHeartbeats 8000000 in
set_option maxRecDepth 100000 in
/-- laws.FnSeRead. -/
theorem seRead_walk (s : ByteArray) (ze : Bool) (most : Nat) (w : World) (hs : s.size ≤ 9223372036854775807) (hmb : most < 18446744073709551616) (he : SeErrs w) :
    Calls Tryd.prog 7 #[.string s, .bool ze, .int .u64 most] w fun e w' => e = .returned (.bool true) ∧ Below w.heap.size w w' := by
  by_cases h1 : s.size ≤ 2147483647
  · by_cases h3 : s.size ≤ 16384
    · by_cases h4 : most ≤ 33554432
      · have HE := Kp.mk he
        have HO := Kp.mk ldOne_calls
        have HS := Kp.mk (fun w => specBlock_calls s ze most w h1 h4)
        clear he hs hmb
        go_enter Tryd.func7, Tryd.ntmps7
        go_wp2_with fail
        refine (HS.out _).mono ?_
        rintro e w1 ⟨hu, hb⟩
        have HB1 := Kp.mk hb
        clear hb HS
        cases hm : longRead (bl s) ze most with
        | left =>
          rw [hm] at hu
          obtain rfl : e = _ := hu
          clear hm
          go_wp2
          go_ret
          exact ⟨rfl, bel_alloc (bel_alloc HB1.out _) _⟩
        | ended k =>
          have HM := Kp.mk hm
          rw [hm] at hu
          obtain rfl : e = _ := hu
          have HB1' := Kp.mk (fun o o2 => bel_alloc (bel_alloc HB1.out o) o2)
          have HC := Kp.mk (fun w he => implSe_calls' s ze most w h1 h4 (by rw [HM.out]; exact fun h => by cases h) he)
          clear hm
          go_wp2_with fail
          refine (HC.out _ (HE.out.below (HB1'.out _ _))).mono ?_
          rintro e w2 ⟨hu, hb⟩
          have HB2 := Kp.mk (bel_then HB1.out (bel_new2 hb))
          have hgV := blk_new (bel_then (bel_alloc (Below.refl _ _) _) hb)
          have hgL := blk_new2 hb
          clear hb HC HB1'
          rw [HM.out] at hu
          obtain ⟨b, rfl⟩ := hu
          have HB2' := Kp.mk (fun o => bel_alloc HB2.out o)
          have c0 := fun o => blk_cell (blk_keep hgL (bel_alloc (Below.refl _ _) o)) 0
          have c1 := fun o => blk_cell (blk_keep hgL (bel_alloc (Below.refl _ _) o)) 1
          have c2 := fun o => blk_cell (blk_keep hgL (bel_alloc (Below.refl _ _) o)) 2
          have c3 := fun o => blk_cell (blk_keep hgL (bel_alloc (Below.refl _ _) o)) 3
          clear hgV hgL
          go_wp2_with fail
          refine (HO.out _ (HE.out.ld.below (HB2'.out _))).mono ?_
          rintro e w3 ⟨rfl, hb⟩
          have HB3 := Kp.mk (bel_then HB2.out (bel_new hb))
          clear hb c0 c1 c2 c3 HB2'
          go_wp2
          go_ret
          exact ⟨rfl, HB3.out⟩
        | failed =>
          have HM := Kp.mk hm
          rw [hm] at hu
          obtain rfl : e = _ := hu
          have HB1' := Kp.mk (fun o o2 => bel_alloc (bel_alloc HB1.out o) o2)
          have HC := Kp.mk (fun w he => implSe_calls' s ze most w h1 h4 (by rw [HM.out]; exact fun h => by cases h) he)
          clear hm
          go_wp2_with fail
          refine (HC.out _ (HE.out.below (HB1'.out _ _))).mono ?_
          rintro e w2 ⟨hu, hb⟩
          have HB2 := Kp.mk (bel_then HB1.out (bel_new2 hb))
          have hgV := blk_new (bel_then (bel_alloc (Below.refl _ _) _) hb)
          have hgL := blk_new2 hb
          clear hb HC HB1'
          rw [HM.out] at hu
          obtain ⟨b, rfl⟩ := hu
          have HB2' := Kp.mk (fun o => bel_alloc HB2.out o)
          have c0 := fun o => blk_cell (blk_keep hgL (bel_alloc (Below.refl _ _) o)) 0
          have c1 := fun o => blk_cell (blk_keep hgL (bel_alloc (Below.refl _ _) o)) 1
          have c2 := fun o => blk_cell (blk_keep hgL (bel_alloc (Below.refl _ _) o)) 2
          have c3 := fun o => blk_cell (blk_keep hgL (bel_alloc (Below.refl _ _) o)) 3
          clear hgV hgL
          go_wp2_with fail
          refine (HO.out _ (HE.out.ld.below (HB2'.out _))).mono ?_
          rintro e w3 ⟨rfl, hb⟩
          have HB3 := Kp.mk (bel_then HB2.out (bel_new hb))
          clear hb c0 c1 c2 c3 HB2'
          go_wp2
          go_ret
          exact ⟨rfl, HB3.out⟩
        | read d N =>
          have HM := Kp.mk hm
          rw [hm] at hu
          unfold SbEnd at hu
          simp only at hu
          cases hcd : cdRead d with
          | none =>
            have HCD := Kp.mk hcd
            rw [hcd] at hu
            obtain rfl : e = _ := hu
            clear hcd
            have HB1' := Kp.mk (fun o o2 => bel_alloc (bel_alloc HB1.out o) o2)
            have HC := Kp.mk (fun w he => implSe_calls' s ze most w h1 h4 (by rw [HM.out]; exact fun h => by cases h) he)
            clear hm
            go_wp2_with fail
            refine (HC.out _ (HE.out.below (HB1'.out _ _))).mono ?_
            rintro e w2 ⟨hu, hb⟩
            have HB2 := Kp.mk (bel_then HB1.out (bel_new2 hb))
            have hgV := blk_new (bel_then (bel_alloc (Below.refl _ _) _) hb)
            have hgL := blk_new2 hb
            clear hb HC HB1'
            rw [HM.out] at hu
            unfold SiEnd at hu
            simp only at hu
            rw [HCD.out] at hu
            obtain ⟨b, rfl⟩ := hu
            have HB2' := Kp.mk (fun o => bel_alloc HB2.out o)
            have c0 := fun o => blk_cell (blk_keep hgL (bel_alloc (Below.refl _ _) o)) 0
            have c1 := fun o => blk_cell (blk_keep hgL (bel_alloc (Below.refl _ _) o)) 1
            have c2 := fun o => blk_cell (blk_keep hgL (bel_alloc (Below.refl _ _) o)) 2
            have c3 := fun o => blk_cell (blk_keep hgL (bel_alloc (Below.refl _ _) o)) 3
            clear hgV hgL
            go_wp2_with fail
            refine (HO.out _ (HE.out.ld.below (HB2'.out _))).mono ?_
            rintro e w3 ⟨rfl, hb⟩
            have HB3 := Kp.mk (bel_then HB2.out (bel_new hb))
            clear hb c0 c1 c2 c3 HB2'
            go_wp2
            go_ret
            exact ⟨rfl, HB3.out⟩
          | some p =>
            obtain ⟨v, codec, code, dg, k⟩ := p
            have HCD := Kp.mk hcd
            rw [hcd] at hu
            obtain rfl : e = _ := hu
            clear hcd
            have HB1' := Kp.mk (fun o o2 => bel_alloc (bel_alloc HB1.out o) o2)
            have HC := Kp.mk (fun w he => implSe_calls' s ze most w h1 h4 (by rw [HM.out]; exact fun h => by cases h) he)
            clear hm
            go_wp2_with fail
            refine (HC.out _ (HE.out.below (HB1'.out _ _))).mono ?_
            rintro e w2 ⟨hu, hb⟩
            have HB2 := Kp.mk (bel_then HB1.out (bel_new2 hb))
            have hgV := blk_new (bel_then (bel_alloc (Below.refl _ _) _) hb)
            have hgL := blk_new2 hb
            clear hb HC HB1'
            rw [HM.out] at hu
            unfold SiEnd at hu
            simp only at hu
            rw [HCD.out] at hu
            obtain rfl : e = _ := hu
            have HB2' := Kp.mk (fun o => bel_alloc HB2.out o)
            have c0 := fun o => blk_cell (blk_keep hgL (bel_alloc (Below.refl _ _) o)) 0
            have c1 := fun o => blk_cell (blk_keep hgL (bel_alloc (Below.refl _ _) o)) 1
            have c2 := fun o => blk_cell (blk_keep hgL (bel_alloc (Below.refl _ _) o)) 2
            have c3 := fun o => blk_cell (blk_keep hgL (bel_alloc (Below.refl _ _) o)) 3
            have d0 := fun o => blk_cell (blk_keep hgV (bel_alloc (Below.refl _ _) o)) 0
            have d1 := fun o => blk_cell (blk_keep hgV (bel_alloc (Below.refl _ _) o)) 1
            have d2 := fun o => blk_cell (blk_keep hgV (bel_alloc (Below.refl _ _) o)) 2
            have d3 := fun o => blk_cell (blk_keep hgV (bel_alloc (Below.refl _ _) o)) 3
            have d4 := fun o => blk_cell (blk_keep hgV (bel_alloc (Below.refl _ _) o)) 4
            clear hgV hgL
            go_wp2_with fail
            refine (HO.out _ (HE.out.ld.below (HB2'.out _))).mono ?_
            rintro e w3 ⟨rfl, hb⟩
            have HB3 := Kp.mk (bel_then HB2.out (bel_new hb))
            clear hb c0 c1 c2 c3 HB2' d0 d1 d2 d3 d4
            go_wp2
            go_ret
            exact ⟨rfl, HB3.out⟩
      · go_enter Tryd.func7, Tryd.ntmps7
        go_wp2
        go_ret
        exact ⟨rfl, Below.refl _ _⟩
    · go_enter Tryd.func7, Tryd.ntmps7
      go_wp2
      go_ret
      exact ⟨rfl, Below.refl _ _⟩
  · go_enter Tryd.func7, Tryd.ntmps7
    go_wp2
    go_ret
    exact ⟨rfl, Below.refl _ _⟩

end Go.Proofs.YtdppnlomhlnbkaaDoor
