/- The walk of impl.C2Read. -/
import Derived.Test.YtpagaagghpopiaaDoorRdHead2
namespace Go.Proofs.YtpagaagghpopiaaDoor
open Go.RowKit

set_option maxHeartbeats 800000 in
theorem headOut_calls (a b c d e : Int) (w : World) :
    Calls Tryd.prog 27 #[.agg #[.int .u64 a, .int .u64 b, .int .u64 c, .int .u64 d, .int .u64 e]] w fun e' w' => e' = .returned (.agg #[.int .u64 a, .int .u64 b, .int .u64 c, .int .u64 d, .int .u64 e]) ∧ Below w.heap.size w w' := by
  go_enter Tryd.func27, Tryd.ntmps27
  go_wp2
  exact bodyPost_ret (v := .agg #[.int .u64 a, .int .u64 b, .int .u64 c, .int .u64 d, .int .u64 e]) (by simp [results, Tryd.results27, go_sem]) rfl ⟨rfl, bel_alloc (bel_alloc (Below.refl _ _) _) _⟩

set_option maxHeartbeats 800000 in
theorem newHead_calls (n : Int) (w : World) (h0 : 0 ≤ n) (h1 : n < 4611686018427387904) :
    Calls Tryd.prog 11 #[.int .u64 n] w fun e' w' => e' = .returned (.agg #[.int .u64 0, .int .u64 0, .int .u64 51, .int .u64 n, .int .u64 (51 + n)]) ∧ Below w.heap.size w w' := by
  go_enter Tryd.func11, Tryd.ntmps11
  go_wp2
  exact bodyPost_ret (v := .agg #[.int .u64 0, .int .u64 0, .int .u64 51, .int .u64 n, .int .u64 (51 + n)]) (by simp [results, Tryd.results11, go_sem]) rfl ⟨rfl, bel_alloc (Below.refl _ _) _⟩

set_option maxHeartbeats 800000 in
theorem newRdr_calls (ga n c : Nat) (w : World) :
    Calls Tryd.prog 26 #[.slice (some ⟨ga, 0, none⟩) n c] w fun e' w' => e' = .returned (.pointer (some ⟨w.heap.size, 0, none⟩)) ∧ w' = w.alloc (.cells #[.slice (some ⟨ga, 0, none⟩) n c, .int .i64 0, .int .i64 (-1)] 90) := by
  go_enter Tryd.func26, Tryd.ntmps26
  go_wp2
  go_ret
  exact ⟨rfl, rfl⟩

/-- What impl.C2Read hands back of a text of 40 bytes or more. -/
def C2End (bs : List UInt8) (e : Ending) : Prop :=
  if hdSound (leAt 16 bs) (leAt 24 bs) (leAt 32 bs) then e = .returned (.tuple #[.agg #[.int .u64 (leAt 0 bs), .int .u64 (leAt 8 bs), .int .u64 (leAt 16 bs), .int .u64 (leAt 24 bs), .int .u64 (leAt 32 bs)], .int .i64 40, .bool true])
  else e = .returned (.tuple #[.agg #[.int .u64 0, .int .u64 0, .int .u64 0, .int .u64 0, .int .u64 0], .int .i64 0, .bool false])

set_option maxHeartbeats 4000000 in
set_option maxRecDepth 100000 in
/-- impl.C2Read. -/
theorem c2Read_calls (s : ByteArray) (w : World) (h40 : 40 ≤ s.size) (hs : s.size ≤ 2147483647) :
    Calls Tryd.prog 9 #[.string s] w fun e w' => C2End (bl s) e ∧ Below w.heap.size w w' := by
  have hkb := fun W => Lib.run_convert_string_bytes (P := Tryd.prog) W 9 59 5 s Tryd.underlying9 Tryd.underlying59 Tryd.underlying5
  have HX := Kp.mk (And.intro h40 hs)
  clear hs h40
  go_enter Tryd.func9, Tryd.ntmps9
  go_wp2_with fail
  generalize hW0 : (w.alloc _).alloc _ = W0
  have hs0 : W0.heap.size = w.heap.size + 1 + 1 := by rw [← hW0]; simp [World.alloc, -World.alloc_eq]
  have hr0 : Hd5t 24 W0 w.heap.size 0 0 0 0 0 := by rw [← hW0]; exact blk_new (bel_alloc (Below.refl _ _) _)
  have hh0 : Hd5t 52 W0 (w.heap.size + 1) 0 0 0 0 0 := by rw [← hW0]; exact blk_new2 (Below.refl _ _)
  have hb0 : Below w.heap.size w W0 := by rw [← hW0]; exact bel_alloc (bel_alloc (Below.refl _ _) _) _
  have hrd := rd_bytes W0 5 s (by have := HX.out; omega)
  rw [hs0] at hrd
  generalize hgc : grownCap W0 s.size 0 5 = gc at *
  have hs1 : (Lib.bytesWorld W0 5 s).heap.size = w.heap.size + 1 + 1 + 1 := by rw [Lib.bytesWorld_size, hs0]
  have hb1 : Below W0.heap.size W0 (Lib.bytesWorld W0 5 s) := bel_bytes (Below.refl _ _) _ _
  generalize hW1 : Lib.bytesWorld W0 5 s = W1 at *
  refine (newRdr_calls _ _ _ _).mono ?_
  rintro e1 w2 ⟨rfl, hw2⟩
  have hb2 : Below W1.heap.size W1 w2 := by rw [hw2]; exact bel_alloc (Below.refl _ _) _
  have hg2 : RdrAt w2 W1.heap.size (w.heap.size + 1 + 1) s.size gc 0 (-1) := by rw [hw2]; simp [RdrAt, World.alloc, -World.alloc_eq]
  have HHD := Kp.mk (hdRead_calls (w.heap.size + 1) W1.heap.size (w.heap.size + 1 + 1) s.size gc (-1) 0 0 0 0 0 (bl s) w2 (blk_keep (blk_keep hh0 hb1) hb2) hg2 (hrd.below hb2) (by omega) (by omega) HX.out.1 (by have := HX.out; omega))
  have HR2 : Kp (Hd5t 24 w2 w.heap.size 0 0 0 0 0) := ⟨blk_keep (blk_keep hr0 hb1) hb2⟩
  have HB2 : Kp (Below w.heap.size w w2) := ⟨(hb0.trans (hb1.mono (by omega))).trans (hb2.mono (by omega))⟩
  have HS2 : Kp (w.heap.size + 1 < w2.heap.size) := ⟨by have := hb2.size; omega⟩
  clear hW0 hs0 hr0 hh0 hb0 hrd hgc hs1 hb1 hW1 hw2 hb2 hg2 hkb
  go_wp2_with fail
  refine HHD.out.mono ?_
  rintro e1 w3 ⟨hu, hb⟩
  have HR3 : Kp (Hd5t 24 w3 w.heap.size 0 0 0 0 0) := ⟨(hb.block w.heap.size (by omega)).trans HR2.out⟩
  have HB3 : Kp (Below w.heap.size w w3) := ⟨HB2.out.trans (hb.mono (by omega))⟩
  unfold HrEnd at hu
  clear hb HHD
  have hb0 := blk_cell HR3.out 0
  have hb1 := blk_cell HR3.out 1
  have hb2 := blk_cell HR3.out 2
  have hb3 := blk_cell HR3.out 3
  have hb4 := blk_cell HR3.out 4
  have hf0 := blk_frozen HR3.out 0
  have hf1 := blk_frozen HR3.out 1
  have hf2 := blk_frozen HR3.out 2
  have hf3 := blk_frozen HR3.out 3
  have hf4 := blk_frozen HR3.out 4
  by_cases hsd : hdSound (leAt 16 (bl s)) (leAt 24 (bl s)) (leAt 32 (bl s))
  · rw [if_pos hsd] at hu
    obtain ⟨rfl, hh⟩ := hu
    have c0 := blk_cell hh 0
    have c1 := blk_cell hh 1
    have c2 := blk_cell hh 2
    have c3 := blk_cell hh 3
    have c4 := blk_cell hh 4
    have HSD := Kp.mk hsd
    have HO := Kp.mk (fun w => headOut_calls (leAt 0 (bl s)) (leAt 8 (bl s)) (leAt 16 (bl s)) (leAt 24 (bl s)) (leAt 32 (bl s)) w)
    clear hsd
    clear hb0 hb1 hb2 hb3 hb4 hf0 hf1 hf2 hf3 hf4
    go_wp2_with fail
    refine (HO.out _).mono ?_
    rintro e4 w4 ⟨rfl, hb⟩
    have HR4 := Kp.mk (blk_keep HR3.out hb)
    have HB4 : Kp (Below w.heap.size w w4) := ⟨HB3.out.trans (hb.mono HB3.out.size)⟩
    clear hb
    have hb0 := blk_cell HR4.out 0
    have hb1 := blk_cell HR4.out 1
    have hb2 := blk_cell HR4.out 2
    have hb3 := blk_cell HR4.out 3
    have hb4 := blk_cell HR4.out 4
    have hf0 := blk_frozen HR4.out 0
    have hf1 := blk_frozen HR4.out 1
    have hf2 := blk_frozen HR4.out 2
    have hf3 := blk_frozen HR4.out 3
    have hf4 := blk_frozen HR4.out 4
    go_wp2_with fail
    refine bodyPost_ret (res_cell3 rfl _ _ w.heap.size 24 #[.int .u64 (leAt 0 (bl s)), .int .u64 (leAt 8 (bl s)), .int .u64 (leAt 16 (bl s)), .int .u64 (leAt 24 (bl s)), .int .u64 (leAt 32 (bl s))] _ rfl (blk_set (blk_set (blk_set (blk_set (blk_set HR4.out 0 _) 1 _) 2 _) 3 _) 4 _) Tryd.underlying24 rfl (by kernel_rfl)) rfl ?_
    refine ⟨by unfold C2End; rw [if_pos HSD.out]; rfl, ?_⟩
    exact bel_set (bel_set (bel_set (bel_set (bel_set HB4.out (Nat.le_refl _) _) (Nat.le_refl _) _) (Nat.le_refl _) _) (Nat.le_refl _) _) (Nat.le_refl _) _
  · rw [if_neg hsd] at hu
    obtain ⟨v, T, u, rfl⟩ := hu
    have HSD := Kp.mk hsd
    clear hsd
    go_wp2_with fail
    refine bodyPost_ret (res_cell3 rfl _ _ w.heap.size 24 #[.int .u64 0, .int .u64 0, .int .u64 0, .int .u64 0, .int .u64 0] _ rfl (blk_set (blk_set (blk_set (blk_set (blk_set HR3.out 0 _) 1 _) 2 _) 3 _) 4 _) Tryd.underlying24 rfl (by kernel_rfl)) rfl ?_
    refine ⟨by unfold C2End; rw [if_neg HSD.out]; rfl, ?_⟩
    exact bel_set (bel_set (bel_set (bel_set (bel_set HB3.out (Nat.le_refl _) _) (Nat.le_refl _) _) (Nat.le_refl _) _) (Nat.le_refl _) _) (Nat.le_refl _) _

end Go.Proofs.YtpagaagghpopiaaDoor
