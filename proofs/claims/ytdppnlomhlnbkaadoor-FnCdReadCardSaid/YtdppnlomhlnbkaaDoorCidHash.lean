/- The walks of package cid's Hash. -/
import Derived.Test.YtdppnlomhlnbkaaDoorCidFn
namespace Go.Proofs.YtdppnlomhlnbkaaDoor
open Go.RowKit

set_option maxHeartbeats 400000 in
set_option maxRecDepth 100000 in
/-- (Cid).Hash of one of version 1. -/
theorem cidHash1_calls (s : ByteArray) (codec code : Nat) (d : List UInt8) (m k : Nat) (w : World) (h : CidS s codec code d m k) (he : UvErrs w) :
    Calls Tryd.prog 46 #[.agg #[.string s]] w fun e w' => (∃ A c, e = .returned (.slice A (s.size - (1 + m)) c) ∧ RdB w' A (s.size - (1 + m)) c ((bl s).drop (1 + m))) ∧ Below w.heap.size w w' := by
  have hlen := h.len
  have hsz := h.size
  have HS := Kp.mk h
  have HV := Kp.mk (fun w => cidVer1_calls s w (by omega) h.zero)
  have HB := Kp.mk (fun w => cidByt_calls s w (by omega) (by omega))
  have HE := Kp.mk he
  have hm1 : 1 + m ≤ s.size := by omega
  clear h hlen he
  go_enter Tryd.func46, Tryd.ntmps46
  go_wp2_with fail
  refine (HB.out _).mono ?_
  rintro e w1 ⟨⟨g, c, rfl, hr⟩, hb⟩
  have HB1 := Kp.mk (bel_new hb)
  have HG := Kp.mk (blk_new hb)
  have HR := Kp.mk hr
  clear hb hr
  have hs0 := blk_cell HG.out 0
  go_wp2_with fail
  refine (HV.out _).mono ?_
  rintro e w2 ⟨rfl, hb⟩
  have HB2 := Kp.mk (bel_then HB1.out hb)
  have HR2 := Kp.mk (HR.out.below hb)
  clear hb
  have HF1 := fromUv_calls _ _ _ _ w2 HR2.out (HE.out.below HB2.out)
  rw [HS.out.r0] at HF1
  have HF1 := Kp.mk HF1
  go_wp2_with fail
  refine HF1.out.mono ?_
  rintro e w3 ⟨hu, hb⟩
  obtain rfl : e = _ := hu
  have HB3 := Kp.mk (bel_then HB2.out hb)
  have HR3 := Kp.mk (HR2.out.below hb)
  clear hb HF1
  obtain ⟨A', hcut, hp⟩ := rd_cut 62 .i64 Tryd.underlying62 (some ⟨g, 0, none⟩) s.size c 1 (by omega)
  rw [show ((1 : Nat) : Int) = 1 from rfl] at hcut
  have HF2 := fromUv_calls _ _ _ _ w3 (hp _ _ HR3.out) (HE.out.below HB3.out)
  rw [HS.out.r1] at HF2
  have HF2 := Kp.mk HF2
  clear hp
  go_wp2_with fail
  refine HF2.out.mono ?_
  rintro e w4 ⟨hu, hb⟩
  obtain rfl : e = _ := hu
  have HB4 := Kp.mk (bel_then HB3.out hb)
  have HR4 := Kp.mk (HR3.out.below hb)
  clear hb HF2 hcut
  obtain ⟨A2, hcut2, hp2⟩ := rd_cut 62 .i64 Tryd.underlying62 (some ⟨g, 0, none⟩) s.size c (1 + m) hm1
  have HP2 := Kp.mk hp2
  have hi : ((1 + m : Nat) : Int) = 1 + (m : Int) := by omega
  rw [hi] at hcut2
  clear hp2
  go_wp2_with fail
  go_ret
  exact ⟨⟨_, _, rfl, HP2.out _ _ HR4.out⟩, HB4.out⟩

end Go.Proofs.YtdppnlomhlnbkaaDoor
