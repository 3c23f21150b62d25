/- The walk of cid.NewCidV1. -/
import Derived.Test.YtdppnlomhlnbkaaDoorBld
import Derived.Test.YtdppnlomhlnbkaaDoorMhEnc
namespace Go.Proofs.YtdppnlomhlnbkaaDoor
open Go.RowKit

theorem bld_zero (w : World) (o : Obj) (t : TypeId) (W : World) (hW : W = ((w.alloc o).alloc (.cells #[.pointer none, .slice none 0 0] t))) : W.heap[w.heap.size + 1]? = some (.cells #[.pointer none, .slice none 0 0] t (0, 0)) := by
  rw [hW]; exact blk_new2 (Below.refl _ _)

theorem arr_cells (w : World) (cs : Array Value) (t : TypeId) (j : Nat) (h : j < cs.size) :
    ((w.alloc (.cells cs t)).cell? ⟨w.heap.size, 0 + j, none⟩).isSome = true ∧ (w.alloc (.cells cs t)).frozen? ⟨w.heap.size, 0 + j, none⟩ = false := by
  simp [World.cell?, World.frozen?, World.alloc, -World.alloc_eq, h]
theorem put_arr (w : World) (cs : Array Value) (t : TypeId) (bs : List UInt8) (h : bs.length ≤ cs.size) (hn : cs.size ≤ 9223372036854775807) :
    RdB ((w.alloc (.cells cs t)).setCells w.heap.size 0 (Lib.byteCells bs)) (some ⟨w.heap.size, 0, none⟩) bs.length cs.size bs := by
  refine ⟨rfl, h, hn, fun _ => ⟨_, _, rfl, fun i hi => ?_⟩⟩
  rw [World.cell?_setCells_in w.heap.size (Lib.byteCells bs) 0 _ (fun j hj => ?_) i (by rw [Lib.byteCells_length]; exact hi)]
  · simp [Lib.byteCells]
  · rw [Lib.byteCells_length] at hj
    exact (arr_cells w cs t j (by omega)).1

theorem arr_cut (g m : Nat) (hm : m ≤ 10) (W : World) :
    (Instr.sliceAt 149 (.pointer (some ⟨g, 0, none⟩)) none (some (.int .i64 (m : Int))) none).run Tryd.prog W = .ok (.slice (some ⟨g, 0, none⟩) m 10) W := by
  obtain ⟨i, hi, _, hs, _⟩ := info_parts info_u8
  have hal : Tryd.prog.arrayLen 149 = 10 := by kernel_rfl
  have hel : Tryd.prog.elem 149 = 5 := by kernel_rfl
  rw [run_sliceAt_array_h W 149 ⟨g, 0, none⟩ (by rw [hal, hel]; exact Tryd.underlying149) .i64 (m : Int) (by omega) (by rw [hal]; omega), hal, hel]
  simp [sizeOf, typeInfo, hi, hs, slicedAt, Result.andThen, add_plain]

set_option maxHeartbeats 4000000 in
set_option maxRecDepth 100000 in
/-- cid.NewCidV1. -/
theorem newV1_calls (g o n c codec : Nat) (mh : List UInt8) (w : World) (hr : RdB w (some ⟨g, o, none⟩) n c mh) (hx : codec < 2 ^ 64) (hn : n ≤ 2147483647) (h0 : 0 < n) :
    Calls Tryd.prog 53 #[.int .u64 codec, .slice (some ⟨g, o, none⟩) n c] w fun e w' => e = .returned (.agg #[.string (strB (1 :: (Lib.uvarint codec ++ mh)))]) ∧ Below w.heap.size w w' := by
  have HR := Kp.mk hr
  have hs1 := uvSize_le hx
  have hs0 := uvSize_pos hx
  have HL := Kp.mk (uvarint_len codec hx)
  have HS := Kp.mk (fun w => uvSize_calls codec w hx)
  have HX := Kp.mk hx
  clear hr hx
  go_enter Tryd.func53, Tryd.ntmps53
  go_wp2_with fail
  refine (HS.out _).mono ?_
  rintro e w' ⟨rfl, rfl⟩
  generalize hW0 : (w.alloc _).alloc _ = W0
  have hbk := bld_zero w _ 146 W0 hW0.symm
  have hr0 : W0.heap[w.heap.size]? = some (.cells #[.string ⟨#[]⟩] 57 (0, 0)) := by rw [← hW0]; exact blk_keep (blk_new (Below.refl _ _)) (bel_alloc (Below.refl _ _) _)
  have hb0 : Below w.heap.size w W0 := by rw [← hW0]; exact bel_alloc (bel_alloc (Below.refl _ _) _) _
  have hsz : w.heap.size + 1 < W0.heap.size := (Array.getElem?_eq_some_iff.1 hbk).1
  have HG := Kp.mk (Tryd.Builder_Grow_fresh (w.heap.size + 1) (w.heap.size + 1) (1 + uvSize codec + n) W0 (Nat.le_refl _) hbk (by omega) (by omega))
  have HR0 := Kp.mk hr0
  have HB0 := Kp.mk hb0
  have hgi : (((1 + uvSize codec + n : Nat)) : Int) = 1 + (uvSize codec : Int) + (n : Int) := by omega
  rw [hgi] at HG
  clear hW0 hbk hr0 hb0 hgi HS
  generalize uvSize codec = sz at *
  go_wp2_with fail
  refine HG.out.mono ?_
  rintro e w1 ⟨rfl, hbl, hb⟩
  have HB1 := Kp.mk (HB0.out.trans (hb.mono (Nat.le_succ _)))
  have hs1' : w.heap.size + 1 ≤ w1.heap.size := by have := hb.size; omega
  have HR1 : Kp (w1.heap[w.heap.size]? = some (.cells #[.string ⟨#[]⟩] 57 (0, 0))) := ⟨(hb.block w.heap.size (Nat.lt_succ_self _)).trans HR0.out⟩
  have HW := bldByte_calls (w.heap.size + 1) (w.heap.size + 1) [] 1 (by omega) w1 hbl hs1' (by simp)
  rw [show (((1 : Nat) : Int)) = 1 from rfl] at HW
  have HW := Kp.mk HW
  have HS1 := Kp.mk hs1'
  clear hbl hb HG HR0 HB0 hs1'
  go_wp2_with fail
  refine HW.out.mono ?_
  rintro e w2 ⟨rfl, hbl, hb⟩
  have HB2 := Kp.mk (HB1.out.trans (hb.mono (Nat.le_succ _)))
  have HR2 : Kp (w2.heap[w.heap.size]? = some (.cells #[.string ⟨#[]⟩] 57 (0, 0))) := ⟨(hb.block w.heap.size (Nat.lt_succ_self _)).trans HR1.out⟩
  have HBL := Kp.mk hbl
  have HS2 : Kp (w.heap.size + 1 ≤ w2.heap.size) := ⟨by have := hb.size; have := HS1.out; omega⟩
  clear hbl hb HW HR1 HB1 HS1
  go_wp2_with fail
  generalize hcs : (#[Value.int IntKind.u8 0, Value.int IntKind.u8 0, Value.int IntKind.u8 0, Value.int IntKind.u8 0, Value.int IntKind.u8 0, Value.int IntKind.u8 0, Value.int IntKind.u8 0, Value.int IntKind.u8 0, Value.int IntKind.u8 0, Value.int IntKind.u8 0] : Array Value) = cs
  have h10 : cs.size = 10 := by rw [← hcs]; rfl
  clear hcs
  have HP := putUv_calls w2.heap.size 0 10 10 codec HX.out (w2.alloc (.cells cs 149)) (by rw [HL.out]; exact hs1) (fun j hj => arr_cells w2 cs _ j (by rw [HL.out] at hj; omega))
  rw [HL.out] at HP
  refine HP.mono ?_
  rintro e w3 ⟨rfl, hw3⟩
  have hput := put_arr w2 cs 149 (Lib.uvarint codec) (by rw [HL.out]; omega) (by omega)
  rw [← hw3, HL.out, h10] at hput
  have hb : Below w2.heap.size w2 w3 := by rw [hw3]; exact bel_setCells (Nat.le_refl _) _ _ (bel_alloc (Below.refl _ _) _)
  have hsz3 : w.heap.size + 1 ≤ w3.heap.size := by have := hb.size; have := HS2.out; omega
  have HB3 := Kp.mk (bel_then HB2.out hb)
  have HR3 := Kp.mk (blk_keep HR2.out hb)
  have HW := Kp.mk (bldWrite_calls (w.heap.size + 1) (w.heap.size + 1) _ _ 0 sz 10 (Lib.uvarint codec) w3 (HBL.out.below hb) hput (by omega) hsz3 (by simp; omega))
  have HS3 := Kp.mk hsz3
  have hcut := arr_cut w2.heap.size sz (by omega)
  clear HP hw3 hput hb hsz3 HBL HB2 HR2 HS2 h10
  go_wp2_with fail
  refine HW.out.mono ?_
  rintro e w4 ⟨rfl, hbl, hb⟩
  have HB4 := Kp.mk (HB3.out.trans (hb.mono (Nat.le_succ _)))
  have HR4 : Kp (w4.heap[w.heap.size]? = some (.cells #[.string ⟨#[]⟩] 57 (0, 0))) := ⟨(hb.block w.heap.size (Nat.lt_succ_self _)).trans HR3.out⟩
  have hs4 : w.heap.size + 1 ≤ w4.heap.size := by have := hb.size; have := HS3.out; omega
  have HW2 := Kp.mk (bldWrite_calls (w.heap.size + 1) (w.heap.size + 1) _ g o n c mh w4 hbl (HR.out.below HB4.out) h0 hs4 (by simp; rw [HL.out]; omega))
  have HS4 := Kp.mk hs4
  clear hbl hb HW HR3 HB3 HS3 hs4 hcut
  go_wp2_with fail
  refine HW2.out.mono ?_
  rintro e w5 ⟨rfl, hbl, hb⟩
  have HB5 := Kp.mk (HB4.out.trans (hb.mono (Nat.le_succ _)))
  have HR5 : Kp (w5.heap[w.heap.size]? = some (.cells #[.string ⟨#[]⟩] 57 (0, 0))) := ⟨(hb.block w.heap.size (Nat.lt_succ_self _)).trans HR4.out⟩
  have HST := Kp.mk (Tryd.Builder_String (w.heap.size + 1) (w.heap.size + 1) _ w5 (Or.inr hbl) (by simp))
  clear hbl hb HW2 HR4 HB4 HS4
  go_wp2_with fail
  refine HST.out.mono ?_
  rintro e w6 ⟨rfl, hb⟩
  have HB6 := Kp.mk (HB5.out.trans (hb.mono (Nat.le_succ _)))
  have HR6 : Kp (w6.heap[w.heap.size]? = some (.cells #[.string ⟨#[]⟩] 57 (0, 0))) := ⟨(hb.block w.heap.size (Nat.lt_succ_self _)).trans HR5.out⟩
  clear hb HST HR5 HB5
  have c0 := blk_cell HR6.out 0
  have f0 := blk_frozen HR6.out 0
  go_wp2_with fail
  refine bodyPost_ret (res_cell1 rfl _ _ w.heap.size 57 _ _ rfl (blk_set HR6.out 0 _) Tryd.underlying57 rfl (by kernel_rfl)) rfl ?_
  exact ⟨by simp [strB], bel_set HB6.out (Nat.le_refl _) _⟩

end Go.Proofs.YtdppnlomhlnbkaaDoor
