/- Some texts in one: Bld, NewV1, CidIn. -/
import Derived.Test.YtnhnkfdhkifahaaGreatDoorUvA
import Derived.Shelf.Strings.Builder1
import Derived.OwnWalk
import Derived.Test.YtnhnkfdhkifahaaGreatDoorMhEnc
import Derived.Test.YtnhnkfdhkifahaaGreatDoorCidA
import Derived.Defers
import Derived.Recover
namespace Go.Proofs.YtnhnkfdhkifahaaGreatDoor
open Go.RowKit

/-- A builder in block b in use, that holds the bytes xs. -/
def Bld (B b : Nat) (xs : List UInt8) (w : World) : Prop := Lib.BuilderAt 82 5 B b (.pointer (some ⟨b, 0, none⟩)) (Lib.byteCells xs) w
theorem Bld.below {B b : Nat} {xs : List UInt8} {w w' : World} (h : Bld B b xs w) (hb : Below w.heap.size w w') : Bld B b xs w' := by
  obtain ⟨hB, v, hbk, ⟨hl, ho⟩, hne⟩ := h
  refine ⟨hB, v, blk_keep hbk hb, ⟨hl, ?_⟩, hne⟩
  rcases ho with ho | ⟨g, cap, cur, rfl, hg, hgg, rest⟩
  · exact .inl ho
  · exact .inr ⟨g, cap, cur, rfl, hg, blk_keep hgg hb, rest⟩
theorem Bld.lt {B b : Nat} {xs : List UInt8} {w : World} (h : Bld B b xs w) : b < w.heap.size := Lib.BuilderAt.lt h

set_option maxHeartbeats 1600000 in
set_option maxRecDepth 100000 in
theorem bldCheck_calls (B b : Nat) (xs : List UInt8) (w : World) (h : Bld B b xs w) :
    Calls Tryz.prog 32 #[.pointer (some ⟨b, 0, none⟩)] w fun e w' => e = .returned (.tuple #[]) ∧ w = w' := by
  have h0 : w.cell? ⟨b, 0, none⟩ = some (.pointer (some ⟨b, 0, none⟩)) := h.cell0
  obtain ⟨j, hj, _⟩ := Option.map_eq_some_iff.1 (show (Tryz.prog.info? 82).map (·.size) = some 2 by kernel_rfl)
  have HQ := Kp.mk (fun W : World => Lib.run_neq_ptr_same (P := Tryz.prog) (tp := 80) W ⟨b, 0, none⟩ Tryz.underlying80 hj)
  clear hj
  clear h
  go_enter Tryz.func32, Tryz.ntmps32
  go_wp2
  rw [HQ.out]
  go_wp2
  go_end0
  exact ⟨rfl, rfl⟩

/-- What appending to a builder's own row leaves. -/
theorem bldPut {B b : Nat} {xs ys : List UInt8} {v v' : Value} {w w1 : World} (hB : B ≤ b) (hbw : B ≤ w.heap.size) (hbk : w.heap[b]? = some (.cells #[.pointer (some ⟨b, 0, none⟩), v] 82 (0, 0))) (hown0 : w.ownsRow B 5 1 v xs.length (Lib.byteCells xs)) (hne : v.ownBlock ≠ some b)
    (hown : w1.ownsRow B 5 1 v' (xs.length + ys.length) (Lib.byteCells xs ++ Lib.byteCells ys)) (hg : w.grownBy w1 v.ownBlock) :
    w1.heap[b]? = some (.cells #[.pointer (some ⟨b, 0, none⟩), v] 82 (0, 0)) ∧ Bld B b (xs ++ ys) (w1.setCell ⟨b, 1, none⟩ v') ∧ Below B w (w1.setCell ⟨b, 1, none⟩ v') ∧ ∃ ao n cap, v' = .slice ao n cap := by
  have hlt : b < w.heap.size := (Array.getElem?_eq_some_iff.1 hbk).1
  have hb2 : w1.heap[b]? = some (.cells #[.pointer (some ⟨b, 0, none⟩), v] 82 (0, 0)) := by
    rw [hg.block b hlt (fun e => hne e.symm)]; exact hbk
  refine ⟨hb2, ?_, ?_, ?_⟩
  · have := Lib.BuilderAt.put (e := 5) (bs' := Lib.byteCells (xs ++ ys)) hB hb2 (by
      rw [show Lib.byteCells (xs ++ ys) = Lib.byteCells xs ++ Lib.byteCells ys by simp [Lib.byteCells], List.length_append, Lib.byteCells_length, Lib.byteCells_length]; exact hown) (by decide)
    exact this
  · exact ((Below.refl B w).grown hg hbw (fun k hk => (hown0.lt k hk).1)).setCell (p := ⟨b, 1, none⟩) hB _
  · rcases hown.2 with ⟨hv, _⟩ | ⟨g, cap, cur, hv, _⟩
    · exact ⟨_, _, _, hv⟩
    · exact ⟨_, _, _, hv⟩

set_option maxHeartbeats 2000000 in
set_option maxRecDepth 100000 in
/-- (*strings.Builder).Write of at least one byte. -/
theorem bldWrite_calls (B b : Nat) (xs : List UInt8) (g o n c : Nat) (ys : List UInt8) (w : World) (h : Bld B b xs w) (hr : RdB w (some ⟨g, o, none⟩) n c ys) (h0 : 0 < n) (hBw : B ≤ w.heap.size) (hlen : xs.length + n ≤ 140737488355328) :
    Calls Tryz.prog 27 #[.pointer (some ⟨b, 0, none⟩), .slice (some ⟨g, o, none⟩) n c] w fun e w' => e = .returned (.tuple #[.int .i64 n, .nilIface]) ∧ Bld B b (xs ++ ys) w' ∧ Below B w w' := by
  obtain ⟨i0, hi, hz0, hz1, hz2⟩ := info_parts info_u8
  have HC := Kp.mk (bldCheck_calls B b xs w h)
  obtain ⟨hB, v, hbk, hown, hne⟩ := h
  rw [Lib.byteCells_length] at hown
  have hyl := hr.len
  have c1 := blk_cell hbk 1
  have c0 := blk_cell hbk 0
  have HH := Kp.mk (fun (v' : Value) w1 hw hg => bldPut (ys := ys) (v' := v') (w1 := w1) hB hBw hbk hown hne (by rw [hyl]; exact hw) hg)
  have HN : Kp (∀ j u, (Lib.byteCells ys)[j]? = some u → w.cell? ((⟨g, o, none⟩ : Addr).add j) = some u) := ⟨fun j u hj => by
    obtain ⟨g', o', e, hcell⟩ := hr.lies h0
    have e' := Option.some.inj e
    simp only [Addr.mk.injEq] at e'
    obtain ⟨rfl, rfl, _⟩ := e'
    have hjl : j < ys.length := by have := (List.getElem?_eq_some_iff.1 hj).1; rwa [Lib.byteCells_length] at this
    rw [add_plain, hcell j hjl]
    simp [Lib.byteCells, List.getElem?_eq_getElem hjl] at hj
    rw [hj]⟩
  have HI := Kp.mk (And.intro hi (And.intro hz0 (And.intro hz1 (And.intro hz2 (And.intro hown (And.intro hyl hBw))))))
  clear hi hz0 hz1 hz2 hown hr hyl hBw hbk hB hne
  go_enter Tryz.func27, Tryz.ntmps27
  go_wp2_with fail
  refine HC.out.mono ?_
  rintro e w' ⟨rfl, rfl⟩
  clear HC
  go_wp2_with (at_builtin; refine wpList_append_own _ rfl _ _ 33 rfl B 5 i0 (.int .u8 0) 1 1 Tryz.underlying33 HI.out.1 HI.out.2.1 HI.out.2.2.1 HI.out.2.2.2.1 rfl (by decide) _ _ _ rfl HI.out.2.2.2.2.1 ⟨g, o, none⟩ n c (Lib.byteCells ys) rfl ?c1 HN.out ?c2 ?c3 ?c4 HI.out.2.2.2.2.2.2 ?_)
  case c1 => rw [Lib.byteCells_length, HI.out.2.2.2.2.2.1]; omega
  case c2 =>
    intro u hu
    simp only [Lib.byteCells, List.mem_map] at hu
    obtain ⟨x, _, rfl⟩ := hu
    rfl
  case c3 => unfold maxLen; omega
  case c4 => omega
  intro v' w2 hown' hgrow _
  obtain ⟨hb2, hbl, hbel, ao, n', cap, rfl⟩ := HH.out v' w2 hown' hgrow
  have d0 := blk_cell hb2 0
  have d1 := blk_cell hb2 1
  have f1 := blk_frozen hb2 1
  have HE := Kp.mk (And.intro hbl hbel)
  clear hown' hgrow hbl hbel hb2
  go_wp2_with fail
  go_ret2
  exact ⟨rfl, HE.out.1, HE.out.2⟩

set_option maxHeartbeats 2000000 in
set_option maxRecDepth 100000 in
/-- (*strings.Builder).WriteByte. -/
theorem bldByte_calls (B b : Nat) (xs : List UInt8) (x : Nat) (hx : x < 256) (w : World) (h : Bld B b xs w) (hBw : B ≤ w.heap.size) (hlen : xs.length + 1 ≤ 140737488355328) :
    Calls Tryz.prog 26 #[.pointer (some ⟨b, 0, none⟩), .int .u8 (x : Int)] w fun e w' => e = .returned .nilIface ∧ Bld B b (xs ++ [UInt8.ofNat x]) w' ∧ Below B w w' := by
  obtain ⟨i0, hi, hz0, hz1, hz2⟩ := info_parts info_u8
  have HC := Kp.mk (bldCheck_calls B b xs w h)
  have hw : Below w.heap.size w (w.alloc (.cells #[.int .u8 (x : Int)] 5)) := bel_alloc (Below.refl _ _) _
  have hbl1 := h.below hw
  obtain ⟨hB, v, hbk, _, _⟩ := h
  obtain ⟨_, v1, hbk1, hown, hne⟩ := hbl1
  have hv : v1 = v := by
    have := (blk_keep hbk hw).symm.trans hbk1
    simpa using this.symm
  subst hv
  rw [Lib.byteCells_length] at hown
  have hce : Lib.byteCells [UInt8.ofNat x] = [.int .u8 (x : Int)] := by
    simp only [Lib.byteCells, List.map_cons, List.map_nil, UInt8.toNat_ofNat', Nat.mod_eq_of_lt (show x < 2 ^ 8 by omega)]
  have c1 := blk_cell hbk 1
  have c0 := blk_cell hbk 0
  have hBw1 : B ≤ (w.alloc (.cells #[.int .u8 (x : Int)] 5)).heap.size := by have := hw.size; omega
  have HH := Kp.mk (fun (v' : Value) w1 hw2 hg => bldPut (ys := [UInt8.ofNat x]) (v' := v') (w1 := w1) hB hBw1 hbk1 hown hne (by rw [hce]; exact hw2) hg)
  have HI := Kp.mk (And.intro hi (And.intro hz0 (And.intro hz1 (And.intro hz2 (And.intro hown (And.intro hBw1 (hw.mono hBw)))))))
  clear hi hz0 hz1 hz2 hown hBw hbk hB hne hw hbk1 hce hBw1
  go_enter Tryz.func26, Tryz.ntmps26
  go_wp2_with fail
  refine HC.out.mono ?_
  rintro e w' ⟨rfl, rfl⟩
  clear HC
  go_wp2_with (at_builtin; refine wpList_append_own _ rfl _ _ 33 rfl B 5 i0 (.int .u8 0) 1 1 Tryz.underlying33 HI.out.1 HI.out.2.1 HI.out.2.2.1 HI.out.2.2.2.1 rfl (by decide) _ _ _ rfl HI.out.2.2.2.2.1 ⟨w.heap.size, 0, none⟩ 1 1 [.int .u8 (x : Int)] rfl rfl ?c1 ?c2 ?c3 ?c4 HI.out.2.2.2.2.2.1 ?_)
  case c1 =>
    intro j u hj
    match j, hj with
    | 0, hj => simp at hj; subst hj; simp [Addr.add]
  case c2 => intro u hu; simp at hu; subst hu; rfl
  case c3 => unfold maxLen; omega
  case c4 => omega
  intro v' w2 hown' hgrow _
  obtain ⟨hb2, hbl, hbel, ao, n', cap, rfl⟩ := HH.out v' w2 hown' hgrow
  have d0 := blk_cell hb2 0
  have d1 := blk_cell hb2 1
  have f1 := blk_frozen hb2 1
  have HE := Kp.mk (And.intro hbl (HI.out.2.2.2.2.2.2.trans hbel))
  clear hown' hgrow hbl hbel hb2
  go_wp2_with fail
  go_ret
  exact ⟨rfl, HE.out.1, HE.out.2⟩

end Go.Proofs.YtnhnkfdhkifahaaGreatDoor
namespace Go.Proofs.YtnhnkfdhkifahaaGreatDoor
open Go.RowKit

theorem bld_zero (w : World) (o : Obj) (t : TypeId) (W : World) (hW : W = ((w.alloc o).alloc (.cells #[.pointer none, .slice none 0 0] t))) : W.heap[w.heap.size + 1]? = some (.cells #[.pointer none, .slice none 0 0] t (0, 0)) := by
  rw [hW]; exact blk_new2 (Below.refl _ _)

theorem arr_cells (w : World) (cs : Array Value) (t : TypeId) (j : Nat) (h : j < cs.size) :
    ((w.alloc (.cells cs t)).cell? ⟨w.heap.size, 0 + j, none⟩).isSome = true ∧ (w.alloc (.cells cs t)).frozen? ⟨w.heap.size, 0 + j, none⟩ = false := by
  simp [World.cell?, World.frozen?, World.alloc, -World.alloc_eq, h]
theorem put_arr (w : World) (cs : Array Value) (t : TypeId) (bs : List UInt8) (h : bs.length ≤ cs.size) (hn : cs.size ≤ 9223372036854775807) :
    RdB ((w.alloc (.cells cs t)).setCells w.heap.size 0 (Lib.byteCells bs)) (some ⟨w.heap.size, 0, none⟩) bs.length cs.size bs := by
  refine ⟨rfl, h, hn, fun _ => ⟨_, _, rfl, fun i hi => ?_⟩⟩
  rw [World.cell?_setCells_in w.heap.size (Lib.byteCells bs) 0 _ (fun j hj => ?_) i (by rw [Lib.byteCells_length]; exact hi)]
  · simp [Lib.byteCells]
  · rw [Lib.byteCells_length] at hj
    exact (arr_cells w cs t j (by omega)).1

theorem arr_cut (g m : Nat) (hm : m ≤ 10) (W : World) :
    (Instr.sliceAt 85 (.pointer (some ⟨g, 0, none⟩)) none (some (.int .i64 (m : Int))) none).run Tryz.prog W = .ok (.slice (some ⟨g, 0, none⟩) m 10) W := by
  obtain ⟨i, hi, _, hs, _⟩ := info_parts info_u8
  have hal : Tryz.prog.arrayLen 85 = 10 := by kernel_rfl
  have hel : Tryz.prog.elem 85 = 5 := by kernel_rfl
  rw [run_sliceAt_array_h W 85 ⟨g, 0, none⟩ (by rw [hal, hel]; exact Tryz.underlying85) .i64 (m : Int) (by omega) (by rw [hal]; omega), hal, hel]
  simp [sizeOf, typeInfo, hi, hs, slicedAt, Result.andThen, add_plain]

set_option maxHeartbeats 4000000 in
set_option maxRecDepth 100000 in
/-- cid.NewCidV1. -/
theorem newV1_calls (g o n c codec : Nat) (mh : List UInt8) (w : World) (hr : RdB w (some ⟨g, o, none⟩) n c mh) (hx : codec < 2 ^ 64) (hn : n ≤ 2147483647) (h0 : 0 < n) :
    Calls Tryz.prog 19 #[.int .u64 codec, .slice (some ⟨g, o, none⟩) n c] w fun e w' => e = .returned (.agg #[.string (strB (1 :: (Lib.uvarint codec ++ mh)))]) ∧ Below w.heap.size w w' := by
  have HR := Kp.mk hr
  have hs1 := uvSize_le hx
  have hs0 := uvSize_pos hx
  have HL := Kp.mk (uvarint_len codec hx)
  have HS := Kp.mk (fun w => uvSize_calls codec w hx)
  have HX := Kp.mk hx
  clear hr hx
  go_enter Tryz.func19, Tryz.ntmps19
  go_wp2_with fail
  refine (HS.out _).mono ?_
  rintro e w' ⟨rfl, rfl⟩
  generalize hW0 : (w.alloc _).alloc _ = W0
  have hbk := bld_zero w _ 82 W0 hW0.symm
  have hr0 : W0.heap[w.heap.size]? = some (.cells #[.string ⟨#[]⟩] 44 (0, 0)) := by rw [← hW0]; exact blk_keep (blk_new (Below.refl _ _)) (bel_alloc (Below.refl _ _) _)
  have hb0 : Below w.heap.size w W0 := by rw [← hW0]; exact bel_alloc (bel_alloc (Below.refl _ _) _) _
  have hsz : w.heap.size + 1 < W0.heap.size := (Array.getElem?_eq_some_iff.1 hbk).1
  have HG := Kp.mk (Tryz.Builder_Grow_fresh (w.heap.size + 1) (w.heap.size + 1) (1 + uvSize codec + n) W0 (Nat.le_refl _) hbk (by omega) (by omega))
  have HR0 := Kp.mk hr0
  have HB0 := Kp.mk hb0
  have hgi : (((1 + uvSize codec + n : Nat)) : Int) = 1 + (uvSize codec : Int) + (n : Int) := by omega
  rw [hgi] at HG
  clear hW0 hbk hr0 hb0 hgi HS
  generalize uvSize codec = sz at *
  go_wp2_with fail
  refine HG.out.mono ?_
  rintro e w1 ⟨rfl, hbl, hb⟩
  have HB1 := Kp.mk (HB0.out.trans (hb.mono (Nat.le_succ _)))
  have hs1' : w.heap.size + 1 ≤ w1.heap.size := by have := hb.size; omega
  have HR1 : Kp (w1.heap[w.heap.size]? = some (.cells #[.string ⟨#[]⟩] 44 (0, 0))) := ⟨(hb.block w.heap.size (Nat.lt_succ_self _)).trans HR0.out⟩
  have HW := bldByte_calls (w.heap.size + 1) (w.heap.size + 1) [] 1 (by omega) w1 hbl hs1' (by simp)
  rw [show (((1 : Nat) : Int)) = 1 from rfl] at HW
  have HW := Kp.mk HW
  have HS1 := Kp.mk hs1'
  clear hbl hb HG HR0 HB0 hs1'
  go_wp2_with fail
  refine HW.out.mono ?_
  rintro e w2 ⟨rfl, hbl, hb⟩
  have HB2 := Kp.mk (HB1.out.trans (hb.mono (Nat.le_succ _)))
  have HR2 : Kp (w2.heap[w.heap.size]? = some (.cells #[.string ⟨#[]⟩] 44 (0, 0))) := ⟨(hb.block w.heap.size (Nat.lt_succ_self _)).trans HR1.out⟩
  have HBL := Kp.mk hbl
  have HS2 : Kp (w.heap.size + 1 ≤ w2.heap.size) := ⟨by have := hb.size; have := HS1.out; omega⟩
  clear hbl hb HW HR1 HB1 HS1
  go_wp2_with fail
  generalize hcs : (#[Value.int IntKind.u8 0, Value.int IntKind.u8 0, Value.int IntKind.u8 0, Value.int IntKind.u8 0, Value.int IntKind.u8 0, Value.int IntKind.u8 0, Value.int IntKind.u8 0, Value.int IntKind.u8 0, Value.int IntKind.u8 0, Value.int IntKind.u8 0] : Array Value) = cs
  have h10 : cs.size = 10 := by rw [← hcs]; rfl
  clear hcs
  have HP := putUv_calls w2.heap.size 0 10 10 codec HX.out (w2.alloc (.cells cs 85)) (by rw [HL.out]; exact hs1) (fun j hj => arr_cells w2 cs _ j (by rw [HL.out] at hj; omega))
  rw [HL.out] at HP
  refine HP.mono ?_
  rintro e w3 ⟨rfl, hw3⟩
  have hput := put_arr w2 cs 85 (Lib.uvarint codec) (by rw [HL.out]; omega) (by omega)
  rw [← hw3, HL.out, h10] at hput
  have hb : Below w2.heap.size w2 w3 := by rw [hw3]; exact bel_setCells (Nat.le_refl _) _ _ (bel_alloc (Below.refl _ _) _)
  have hsz3 : w.heap.size + 1 ≤ w3.heap.size := by have := hb.size; have := HS2.out; omega
  have HB3 := Kp.mk (bel_then HB2.out hb)
  have HR3 := Kp.mk (blk_keep HR2.out hb)
  have HW := Kp.mk (bldWrite_calls (w.heap.size + 1) (w.heap.size + 1) _ _ 0 sz 10 (Lib.uvarint codec) w3 (HBL.out.below hb) hput (by omega) hsz3 (by simp; omega))
  have HS3 := Kp.mk hsz3
  have hcut := arr_cut w2.heap.size sz (by omega)
  clear HP hw3 hput hb hsz3 HBL HB2 HR2 HS2 h10
  go_wp2_with fail
  refine HW.out.mono ?_
  rintro e w4 ⟨rfl, hbl, hb⟩
  have HB4 := Kp.mk (HB3.out.trans (hb.mono (Nat.le_succ _)))
  have HR4 : Kp (w4.heap[w.heap.size]? = some (.cells #[.string ⟨#[]⟩] 44 (0, 0))) := ⟨(hb.block w.heap.size (Nat.lt_succ_self _)).trans HR3.out⟩
  have hs4 : w.heap.size + 1 ≤ w4.heap.size := by have := hb.size; have := HS3.out; omega
  have HW2 := Kp.mk (bldWrite_calls (w.heap.size + 1) (w.heap.size + 1) _ g o n c mh w4 hbl (HR.out.below HB4.out) h0 hs4 (by simp; rw [HL.out]; omega))
  have HS4 := Kp.mk hs4
  clear hbl hb HW HR3 HB3 HS3 hs4 hcut
  go_wp2_with fail
  refine HW2.out.mono ?_
  rintro e w5 ⟨rfl, hbl, hb⟩
  have HB5 := Kp.mk (HB4.out.trans (hb.mono (Nat.le_succ _)))
  have HR5 : Kp (w5.heap[w.heap.size]? = some (.cells #[.string ⟨#[]⟩] 44 (0, 0))) := ⟨(hb.block w.heap.size (Nat.lt_succ_self _)).trans HR4.out⟩
  have HST := Kp.mk (Tryz.Builder_String (w.heap.size + 1) (w.heap.size + 1) _ w5 (Or.inr hbl) (by simp))
  clear hbl hb HW2 HR4 HB4 HS4
  go_wp2_with fail
  refine HST.out.mono ?_
  rintro e w6 ⟨rfl, hb⟩
  have HB6 := Kp.mk (HB5.out.trans (hb.mono (Nat.le_succ _)))
  have HR6 : Kp (w6.heap[w.heap.size]? = some (.cells #[.string ⟨#[]⟩] 44 (0, 0))) := ⟨(hb.block w.heap.size (Nat.lt_succ_self _)).trans HR5.out⟩
  clear hb HST HR5 HB5
  have c0 := blk_cell HR6.out 0
  have f0 := blk_frozen HR6.out 0
  go_wp2_with fail
  refine bodyPost_ret (res_cell1 rfl _ _ w.heap.size 44 _ _ rfl (blk_set HR6.out 0 _) Tryz.underlying44 rfl (by kernel_rfl)) rfl ?_
  exact ⟨by simp [strB], bel_set HB6.out (Nat.le_refl _) _⟩

end Go.Proofs.YtnhnkfdhkifahaaGreatDoor
namespace Go.Proofs.YtnhnkfdhkifahaaGreatDoor
open Go.RowKit

set_option maxHeartbeats 800000 in
/-- The deferred closure of impl.cidIn where nothing panics. -/
theorem cidIn_idle (p q : Value) (w : World) :
    CallsD Tryz.prog 16 #[p, q] .returning w fun e u' w' => e = .returned (.tuple #[]) ∧ u' = .returning ∧ w' = w := by
  refine callsD_of_wpS Tryz.func16 rfl fun c₀ cs hu => ?_
  apply wpS_seq
  apply wpS_region
  simp [wpOpsS, go_sem, recoverD, hu, Tryz.ntmps16, Exit.thenS]
  refine wpS_cond (t := false) (by simp [Act.eval, Array.replicate]) ?_
  simp only [Bool.false_eq_true, if_false]
  refine wpS_of_wp (wp_skip ?_)
  cases c₀
  simp_all [bodyPostS, results, Tryz.results16]

theorem res_cells2 {P : Program} {fn : Func} {p u : Tmp} {ty tb : TypeId} (h : fn.results = #[.cell p ty, .cell u tb]) (tmps : Array Value) (w : World) (g : Nat) (t : TypeId) (cs : Array Value) (d : TypeDesc) (a : Addr) (b : Value) (hp : tmps.getD p undef = .pointer (some ⟨g, 0, none⟩)) (hq : tmps.getD u undef = .pointer (some a)) (hg : w.heap[g]? = some (.cells cs t (0, 0)))
    (hu : P.underlying ty = some d) (hd : (match d with | .struct _ | .array _ _ => true | _ => false) = true) (hi : (P.info? ty).map (·.size) = some cs.size)
    (ha : ∀ w, (isAgg tb).run P w = .ok false w) (hb : w.cell? a = some b) : (results fn tmps).run P w = .ok (.tuple #[.agg cs, b]) w := by
  have hr := run_loadVar_row (P := P) w g t ty cs (0, 0) d hg hu hd hi
  have hr2 : (loadVar tb a).run P w = .ok b w := by
    simp [loadVar, ha, hb, go_sem]
  have hp' : tmps[p]?.getD undef = .pointer (some ⟨g, 0, none⟩) := by rw [← hp, Array.getD_eq_getD_getElem?]
  have hq' : tmps[u]?.getD undef = .pointer (some a) := by rw [← hq, Array.getD_eq_getD_getElem?]
  simp [results, h, asAddr, hr, hr2, hp', hq']

set_option maxHeartbeats 4000000 in
set_option maxRecDepth 100000 in
/-- impl.cidIn of one of version 1. -/
theorem cidIn1_calls (s : ByteArray) (codec code : Nat) (w : World) (hc : codec < 2 ^ 64) (hx : code < 2 ^ 64) (hs : s.size ≤ 1073741824) :
    Calls Tryz.prog 11 #[.agg #[.int .u64 1, .int .u64 codec, .int .u64 code, .string s]] w fun e w' => e = .returned (.tuple #[.agg #[.string (strB (cdBytes codec code (bl s)))], .bool true]) ∧ Below w.heap.size w w' := by
  have hmf : ∀ (fn : Fn) (first cap : Array Value) (w : World), (Instr.makeFunc fn first cap).run Tryz.prog w = .ok (.func fn first cap) w := fun _ _ _ _ => rfl
  have hkb := fun W => Lib.run_convert_string_bytes (P := Tryz.prog) W 9 33 5 s Tryz.underlying9 Tryz.underlying33 Tryz.underlying5
  have hbc : ∀ o1 o2, (Lib.bytesWorld (((w.alloc (.cells #[.int .u64 1, .int .u64 codec, .int .u64 code, .string s] 24)).alloc o1).alloc o2) 5 s).cell? ⟨w.heap.size, 2, none⟩ = some (.int .u64 code) := fun o1 o2 =>
    blk_cell (blk_keep (blk_new (w := w) (bel_alloc (bel_alloc (Below.refl _ _) o1) o2)) (bel_bytes (Below.refl _ _) _ s)) 2
  have HX := Kp.mk (And.intro hc (And.intro hx hs))
  clear hc hx hs
  go_enter_defers Tryz.func11, Tryz.ntmps11
  go_wp2_with fail
  generalize hW0 : ((w.alloc _).alloc _).alloc _ = W0
  have hr0 : W0.heap[w.heap.size]? = some (.cells #[.int .u64 1, .int .u64 codec, .int .u64 code, .string s] 24 (0, 0)) := by rw [← hW0]; exact blk_new (bel_alloc (bel_alloc (Below.refl _ _) _) _)
  have hr1 : W0.heap[w.heap.size + 1]? = some (.cells #[.string ⟨#[]⟩] 44 (0, 0)) := by rw [← hW0]; exact blk_new2 (bel_alloc (Below.refl _ _) _)
  have hr2 : W0.heap[w.heap.size + 1 + 1]? = some (.cells #[.bool false] 4 (0, 0)) := by
    rw [← hW0]; have := blk_new2 (w := w.alloc (.cells #[.int .u64 1, .int .u64 codec, .int .u64 code, .string s] 24)) (o := .cells #[.string ⟨#[]⟩] 44) (o2 := .cells #[.bool false] 4) (Below.refl _ _)
    simpa [World.alloc, -World.alloc_eq] using this
  have hb0 : Below w.heap.size w W0 := by rw [← hW0]; exact bel_alloc (bel_alloc (bel_alloc (Below.refl _ _) _) _) _
  have hs0 : W0.heap.size = w.heap.size + 1 + 1 + 1 := by rw [← hW0]; simp [World.alloc, -World.alloc_eq]
  have hrd := rd_bytes W0 5 s (by have := HX.out; omega)
  rw [hs0] at hrd
  generalize hgc : grownCap W0 s.size 0 5 = gc at *
  have hb1 : Below W0.heap.size W0 (Lib.bytesWorld W0 5 s) := bel_bytes (Below.refl _ _) _ _
  generalize hW1 : Lib.bytesWorld W0 5 s = W1 at *
  have HEn := Kp.mk (mhEncode_calls _ _ _ _ code _ W1 hrd HX.out.2.1 (by have := HX.out; omega))
  have HR0 := Kp.mk (blk_keep hr0 hb1)
  have HR1 := Kp.mk (blk_keep hr1 hb1)
  have HR2 := Kp.mk (blk_keep hr2 hb1)
  have HB1 := Kp.mk (bel_then hb0 hb1)
  clear hW0 hr0 hr1 hr2 hb0 hs0 hrd hgc hb1 hW1 hkb hbc hmf
  refine HEn.out.mono ?_
  rintro e w2 ⟨⟨rfl, hrd⟩, hb⟩
  have hR0 := blk_keep HR0.out hb
  have HR1' := Kp.mk (blk_keep HR1.out hb)
  have HR2' := Kp.mk (blk_keep HR2.out hb)
  have HB2 := Kp.mk (bel_then HB1.out hb)
  have c0 := blk_cell hR0 0
  have c1 := blk_cell hR0 1
  have hml : (mhBytes code (bl s)).length ≤ 2147483647 ∧ 0 < (mhBytes code (bl s)).length := by
    have h1 := uvarint_len code HX.out.2.1
    have h2 := uvSize_le HX.out.2.1
    have h3 := uvSize_pos HX.out.2.1
    have h4 := HX.out.2.2
    have h5 := uvarint_len s.size (by omega)
    have h6 := uvSize_le (x := s.size) (by omega)
    rw [mhBytes, List.length_append, List.length_append, bl_length, h1, h5]
    omega
  have HN := Kp.mk (newV1_calls _ _ _ _ codec _ w2 hrd HX.out.1 hml.1 hml.2)
  generalize (mhBytes code (bl s)).length = L at *
  clear hb HR0 HR1 HR2 HB1 hR0 HEn hrd hml
  go_wp2_with fail
  refine HN.out.mono ?_
  rintro e w3 ⟨rfl, hb⟩
  have HR1 := Kp.mk (blk_keep HR1'.out hb)
  have HR2 := Kp.mk (blk_keep HR2'.out hb)
  have HB3 := Kp.mk (bel_then HB2.out hb)
  have d1 := blk_cell HR1.out 0
  have f1 := blk_frozen HR1.out 0
  have d2 := blk_cell HR2.out 0
  have f2 := blk_frozen HR2.out 0
  clear hb HN HR1' HR2' HB2 c0 c1
  go_wp2_with fail
  refine leaves_cons (f := 16) (args := #[.pointer (some ⟨w.heap.size + 1, 0, none⟩), .pointer (some ⟨w.heap.size + 1 + 1, 0, none⟩)]) (by simp) (by simp [go_sem]) ?_
  refine (cidIn_idle _ _ _).mono ?_
  rintro e u' w'' ⟨rfl, rfl, rfl⟩
  refine ⟨_, res_cells2 rfl _ _ (w.heap.size + 1) 44 #[.string (strB (cdBytes codec code (bl s)))] _ ⟨w.heap.size + 1 + 1, 0, none⟩ (.bool true) rfl rfl
    (blk_far (blk_set HR1.out 0 _) (by show w.heap.size + 1 ≠ w.heap.size + 1 + 1; omega) _) Tryz.underlying44 rfl (by kernel_rfl) Tryz.isAgg4
    (blk_cell (blk_set (blk_far HR2.out (by show w.heap.size + 1 + 1 ≠ w.heap.size + 1; omega) _) 0 _) 0), rfl, ?_⟩
  exact bel_set (bel_set HB3.out (by show w.heap.size ≤ w.heap.size + 1; omega) _) (by show w.heap.size ≤ w.heap.size + 1 + 1; omega) _




























end Go.Proofs.YtnhnkfdhkifahaaGreatDoor
