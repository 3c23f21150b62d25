/- The walk of impl.CdRead. -/
import Derived.Test.YtdppnlomhlnbkaaDoorCdRd
namespace Go.Proofs.YtdppnlomhlnbkaaDoor
open Go.RowKit

/-- What impl.CdRead hands back. -/
def CrEnd (bs : List UInt8) (e : Ending) : Prop :=
  match cdRead bs with
  | some (v, codec, code, d, n) => e = .returned (.tuple #[.agg #[.int .u64 v, .int .u64 codec, .int .u64 code, .string (strB d)], .int .i64 n, .bool true])
  | none => e = .returned (.tuple #[.agg #[.int .u64 0, .int .u64 0, .int .u64 0, .string ⟨#[]⟩], .int .i64 0, .bool false])

set_option maxHeartbeats 4000000 in
set_option maxRecDepth 100000 in
/-- impl.CdRead. -/
theorem cdRd_calls (s : ByteArray) (w : World) (hs : s.size ≤ 2147483647) (he : CdErrs w) :
    Calls Tryd.prog 10 #[.string s] w fun e w' => CrEnd (bl s) e ∧ Below w.heap.size w w' := by
  have hkb := fun W => Lib.run_convert_string_bytes (P := Tryd.prog) W 9 62 5 s Tryd.underlying9 Tryd.underlying62 Tryd.underlying5
  have HX := Kp.mk hs
  have HE := Kp.mk he
  clear hs he
  go_enter Tryd.func10, Tryd.ntmps10
  go_wp2_with fail
  generalize hW0 : w.alloc _ = W0
  have hr0 : W0.heap[w.heap.size]? = some (.cells #[.int .u64 0, .int .u64 0, .int .u64 0, .string ⟨#[]⟩] 24 (0, 0)) := by rw [← hW0]; exact blk_new (Below.refl _ _)
  have hb0 : Below w.heap.size w W0 := by rw [← hW0]; exact bel_alloc (Below.refl _ _) _
  have hs0 : W0.heap.size = w.heap.size + 1 := by rw [← hW0]; simp [World.alloc, -World.alloc_eq]
  have hrd := rd_bytes W0 5 s (by have := HX.out; omega)
  rw [hs0] at hrd
  generalize hgc : grownCap W0 s.size 0 5 = gc at *
  have hb1 : Below W0.heap.size W0 (Lib.bytesWorld W0 5 s) := bel_bytes (Below.refl _ _) _ _
  generalize hW1 : Lib.bytesWorld W0 5 s = W1 at *
  have HF := Kp.mk (cidFrom_calls _ _ _ _ W1 hrd (HE.out.below (bel_then hb0 hb1)) HX.out)
  have HR1 := Kp.mk (blk_keep hr0 hb1)
  have HB1 := Kp.mk (bel_then hb0 hb1)
  clear hW0 hr0 hb0 hrd hb1 hW1 hkb hs0 hgc
  refine HF.out.mono ?_
  rintro e w2 ⟨hu, hb⟩
  have HR2 := Kp.mk (blk_keep HR1.out hb)
  have HB2 := Kp.mk (bel_then HB1.out hb)
  clear hb HF HR1 HB1
  unfold CfEnd at hu
  cases hrd : cdRead (bl s) with
  | none =>
    rw [hrd] at hu
    obtain ⟨v, s1, T, u, rfl⟩ := hu
    have HN := Kp.mk hrd
    clear hrd
    have hb0 := fun ob => blk_cell (blk_keep HR2.out (bel_alloc (Below.refl _ _) ob)) 0
    have hf0 := fun ob => blk_frozen (blk_keep HR2.out (bel_alloc (Below.refl _ _) ob)) 0
    have hb1 := fun ob => blk_cell (blk_keep HR2.out (bel_alloc (Below.refl _ _) ob)) 1
    have hf1 := fun ob => blk_frozen (blk_keep HR2.out (bel_alloc (Below.refl _ _) ob)) 1
    have hb2 := fun ob => blk_cell (blk_keep HR2.out (bel_alloc (Below.refl _ _) ob)) 2
    have hf2 := fun ob => blk_frozen (blk_keep HR2.out (bel_alloc (Below.refl _ _) ob)) 2
    have hb3 := fun ob => blk_cell (blk_keep HR2.out (bel_alloc (Below.refl _ _) ob)) 3
    have hf3 := fun ob => blk_frozen (blk_keep HR2.out (bel_alloc (Below.refl _ _) ob)) 3
    go_wp2_with fail
    refine bodyPost_ret (res_cell3 rfl _ _ w.heap.size 24 #[.int .u64 0, .int .u64 0, .int .u64 0, .string ⟨#[]⟩] _ rfl (blk_set (blk_set (blk_set (blk_set (blk_keep HR2.out (bel_alloc (Below.refl _ _) _)) 0 _) 1 _) 2 _) 3 _) Tryd.underlying24 rfl (by kernel_rfl)) rfl ?_
    refine ⟨by unfold CrEnd; rw [HN.out]; rfl, ?_⟩
    exact bel_set (bel_set (bel_set (bel_set (bel_alloc HB2.out _) (Nat.le_refl _) _) (Nat.le_refl _) _) (Nat.le_refl _) _) (Nat.le_refl _) _
  | some q =>
    obtain ⟨v, codec, code, d, n⟩ := q
    rw [hrd] at hu
    simp only at hu
    subst hu
    have HN := Kp.mk hrd
    have HO := Kp.mk (fun w => cidOutRead_calls (bl s) v codec code n d w hrd (by rw [bl_length]; exact HX.out))
    clear hrd
    go_wp2_with fail
    have HE3 := Kp.mk (fun ob => ((HE.out.below HB2.out).mh).below (bel_alloc (Below.refl _ _) ob))
    refine (HO.out _ (HE3.out _)).mono ?_
    rintro e w3 ⟨rfl, hb⟩
    have HR3 := Kp.mk (blk_keep HR2.out (bel_new hb))
    have HB3 := Kp.mk (bel_then HB2.out (bel_new hb))
    clear hb HO HE3
    have hb0 := blk_cell HR3.out 0
    have hf0 := blk_frozen HR3.out 0
    have hb1 := blk_cell HR3.out 1
    have hf1 := blk_frozen HR3.out 1
    have hb2 := blk_cell HR3.out 2
    have hf2 := blk_frozen HR3.out 2
    have hb3 := blk_cell HR3.out 3
    have hf3 := blk_frozen HR3.out 3
    go_wp2_with fail
    refine bodyPost_ret (res_cell3 rfl _ _ w.heap.size 24 #[.int .u64 v, .int .u64 codec, .int .u64 code, .string (strB d)] _ rfl (blk_set (blk_set (blk_set (blk_set HR3.out 0 _) 1 _) 2 _) 3 _) Tryd.underlying24 rfl (by kernel_rfl)) rfl ?_
    refine ⟨by unfold CrEnd; rw [HN.out]; rfl, ?_⟩
    exact bel_set (bel_set (bel_set (bel_set HB3.out (Nat.le_refl _) _) (Nat.le_refl _) _) (Nat.le_refl _) _) (Nat.le_refl _) _

end Go.Proofs.YtdppnlomhlnbkaaDoor
