/- The walks of LittleEndian's PutUint32 and PutUint64 and of index.zzWrite32, zzWrite64. Printed by gen-leput.py. -/
import Derived.Test.YtnhnkfdhkifahaaGreatDoorPutArr
import Derived.Lib.Endian
namespace Go.Proofs.YtnhnkfdhkifahaaGreatDoor
open Go.RowKit

theorem lePut32_calls (g o n c v : Nat) (hv : v < 2 ^ 32) (w : World) (hn : 4 ≤ n) (cs : Array Value) (hg : w.heap[g]? = some (.cells cs 5 (0, 0))) (ho : o + 4 ≤ cs.size) :
    Calls Tryz.prog 72 #[.agg #[], .slice (some ⟨g, o, none⟩) n c, .int .u32 v] w fun e w' => e = .returned (.tuple #[]) ∧ w'.heap[g]? = some (.cells (putArr cs o (Lib.byteCells (Lib.leBytes 4 v))) 5 (0, 0)) ∧ w.heap.size ≤ w'.heap.size ∧ ∀ B, B ≤ g → Below B w w' := by
  have hlt : g < w.heap.size := (Array.getElem?_eq_some_iff.1 hg).1
  have hc : ∀ j, (h : j < 4) → w.cell? ⟨g, o + j, none⟩ = some (cs[o + j]'(by omega)) := fun j h => by rw [blk_cell hg, Array.getElem?_eq_getElem (by omega)]
  refine (Tryz.binary_LE_PutUint32 g o n c v hv _ _ _ _ w hn (hc 0 (by omega)) (hc 1 (by omega)) (hc 2 (by omega)) (hc 3 (by omega))
    (blk_frozen hg _) (blk_frozen hg _) (blk_frozen hg _) (blk_frozen hg _)).mono ?_
  rintro e w' ⟨rfl, rfl⟩
  have hal := bel_alloc (Below.refl w.heap.size w) (.cells #[] 153)
  refine ⟨rfl, blk_putCells _ _ _ (blk_keep hg hal), ?_, fun B hB => belB_sc hB _ _ (hal.mono (by omega))⟩
  exact (belB_sc (Nat.zero_le _) _ _ (hal.mono (Nat.zero_le _))).size
theorem put_one32 (a : Nat) : (putArr (zeros 4) 0 (Lib.byteCells (Lib.leBytes 4 a))).toList = Lib.byteCells (Lib.leBytes 4 a) := by
  have hl : (Lib.byteCells (Lib.leBytes 4 a)).length = 4 := by rw [Lib.byteCells_length, Lib.leBytes_length]
  rw [putArr_toList _ _ _ (by rw [hl, zeros_size]; omega), hl]
  simp [zeros]

set_option maxHeartbeats 4000000 in
set_option maxRecDepth 100000 in
/-- index.zzWrite32 onto a bytes.Buffer. -/
theorem zz32_calls (B b v : Nat) (xs : List UInt8) (w : World) (h : Buf B b xs w) (hBw : B ≤ w.heap.size) (hv : v < 2 ^ 32) (hl : xs.length ≤ 1000000) :
    Calls Tryz.prog 65 #[.iface 65 (.pointer (some ⟨b, 0, none⟩)), .int .u32 v] w fun e w' => e = .returned .nilIface ∧ Buf B b (xs ++ Lib.leBytes 4 v) w' ∧ Below B w w' ∧ Beside b w w' := by
  have hmk : ∀ W : World, (Instr.makeSlice 33 (.int .i64 4) (.int .i64 4)).run Tryz.prog W = .ok (.slice (some ⟨W.heap.size, 0, none⟩) 4 4) (W.alloc (.cells (zeros 4) 5)) := fun W => mk_bytes 33 Tryz.underlying33 4 (by omega) W
  have HX := Kp.mk (And.intro h (And.intro hBw hl))
  have HP := Kp.mk (lePut32_calls w.heap.size 0 4 4 v hv (w.alloc (.cells (zeros 4) 5)) (Nat.le_refl _) (zeros 4) (blk_new (w := w) (o := .cells (zeros 4) 5) (Below.refl _ _)) (by rw [zeros_size]; omega))
  clear h hBw hv hl
  go_enter Tryz.func65, Tryz.ntmps65
  go_wp2_with fail
  refine HP.out.mono ?_
  rintro e w1 ⟨rfl, hg, hs, hf⟩
  have hb1 : Below w.heap.size w w1 := (bel_alloc (Below.refl w.heap.size w) (.cells (zeros 4) 5)).trans (hf w.heap.size (Nat.le_refl _))
  have hrd : RdB w1 (some ⟨w.heap.size, 0, none⟩) 4 4 (Lib.leBytes 4 v) := by
    have := rd_of_blk (bs := Lib.leBytes 4 v) hg (put_one32 v) (by rw [Lib.leBytes_length]; omega)
    rw [Lib.leBytes_length] at this
    exact this
  have hlt : b < w.heap.size := HX.out.1.lt
  have HWr := Kp.mk (bufWrite_calls B b xs w.heap.size 0 4 4 _ w1 (HX.out.1.below hb1) hrd (by omega) (by omega) (by have := hb1.size; have := HX.out.2.1; omega) (by have := HX.out.2.2; omega))
  have HB1 := Kp.mk hb1
  have hm : ∀ W, (method 318 65 (.pointer (some ⟨b, 0, none⟩)) "Write").run Tryz.prog W = .ok (131, .pointer (some ⟨b, 0, none⟩)) W := fun _ => by kernel_rfl
  clear hrd hlt hg hs hf hb1 HP
  go_wp2_with fail
  refine HWr.out.mono ?_
  rintro e w8 ⟨rfl, hbf, hB8, hO8⟩
  have HE := Kp.mk (And.intro hbf (And.intro ((HB1.out.mono HX.out.2.1).trans hB8) (Lib.OthersKept.trans (beside_below HB1.out) hO8)))
  clear hbf hB8 hO8 HWr HB1
  go_wp2_with fail
  go_ret
  exact ⟨rfl, HE.out.1, HE.out.2.1, HE.out.2.2⟩

theorem lePut64_calls (g o n c v : Nat) (hv : v < 2 ^ 64) (w : World) (hn : 8 ≤ n) (cs : Array Value) (hg : w.heap[g]? = some (.cells cs 5 (0, 0))) (ho : o + 8 ≤ cs.size) :
    Calls Tryz.prog 79 #[.agg #[], .slice (some ⟨g, o, none⟩) n c, .int .u64 v] w fun e w' => e = .returned (.tuple #[]) ∧ w'.heap[g]? = some (.cells (putArr cs o (Lib.byteCells (Lib.leBytes 8 v))) 5 (0, 0)) ∧ w.heap.size ≤ w'.heap.size ∧ ∀ B, B ≤ g → Below B w w' := by
  have hlt : g < w.heap.size := (Array.getElem?_eq_some_iff.1 hg).1
  have hc : ∀ j, (h : j < 8) → w.cell? ⟨g, o + j, none⟩ = some (cs[o + j]'(by omega)) := fun j h => by rw [blk_cell hg, Array.getElem?_eq_getElem (by omega)]
  refine (Tryz.binary_LE_PutUint64 g o n c v hv _ _ _ _ _ _ _ _ w hn (hc 0 (by omega)) (hc 1 (by omega)) (hc 2 (by omega)) (hc 3 (by omega)) (hc 4 (by omega)) (hc 5 (by omega)) (hc 6 (by omega)) (hc 7 (by omega))
    (blk_frozen hg _) (blk_frozen hg _) (blk_frozen hg _) (blk_frozen hg _) (blk_frozen hg _) (blk_frozen hg _) (blk_frozen hg _) (blk_frozen hg _)).mono ?_
  rintro e w' ⟨rfl, rfl⟩
  have hal := bel_alloc (Below.refl w.heap.size w) (.cells #[] 153)
  refine ⟨rfl, blk_putCells _ _ _ (blk_keep hg hal), ?_, fun B hB => belB_sc hB _ _ (hal.mono (by omega))⟩
  exact (belB_sc (Nat.zero_le _) _ _ (hal.mono (Nat.zero_le _))).size
theorem put_one64 (a : Nat) : (putArr (zeros 8) 0 (Lib.byteCells (Lib.leBytes 8 a))).toList = Lib.byteCells (Lib.leBytes 8 a) := by
  have hl : (Lib.byteCells (Lib.leBytes 8 a)).length = 8 := by rw [Lib.byteCells_length, Lib.leBytes_length]
  rw [putArr_toList _ _ _ (by rw [hl, zeros_size]; omega), hl]
  simp [zeros]

set_option maxHeartbeats 4000000 in
set_option maxRecDepth 100000 in
/-- index.zzWrite64 onto a bytes.Buffer. -/
theorem zz64_calls (B b v : Nat) (xs : List UInt8) (w : World) (h : Buf B b xs w) (hBw : B ≤ w.heap.size) (hv : v < 2 ^ 64) (hl : xs.length ≤ 1000000) :
    Calls Tryz.prog 74 #[.iface 65 (.pointer (some ⟨b, 0, none⟩)), .int .u64 v] w fun e w' => e = .returned .nilIface ∧ Buf B b (xs ++ Lib.leBytes 8 v) w' ∧ Below B w w' ∧ Beside b w w' := by
  have hmk : ∀ W : World, (Instr.makeSlice 33 (.int .i64 8) (.int .i64 8)).run Tryz.prog W = .ok (.slice (some ⟨W.heap.size, 0, none⟩) 8 8) (W.alloc (.cells (zeros 8) 5)) := fun W => mk_bytes 33 Tryz.underlying33 8 (by omega) W
  have HX := Kp.mk (And.intro h (And.intro hBw hl))
  have HP := Kp.mk (lePut64_calls w.heap.size 0 8 8 v hv (w.alloc (.cells (zeros 8) 5)) (Nat.le_refl _) (zeros 8) (blk_new (w := w) (o := .cells (zeros 8) 5) (Below.refl _ _)) (by rw [zeros_size]; omega))
  clear h hBw hv hl
  go_enter Tryz.func74, Tryz.ntmps74
  go_wp2_with fail
  refine HP.out.mono ?_
  rintro e w1 ⟨rfl, hg, hs, hf⟩
  have hb1 : Below w.heap.size w w1 := (bel_alloc (Below.refl w.heap.size w) (.cells (zeros 8) 5)).trans (hf w.heap.size (Nat.le_refl _))
  have hrd : RdB w1 (some ⟨w.heap.size, 0, none⟩) 8 8 (Lib.leBytes 8 v) := by
    have := rd_of_blk (bs := Lib.leBytes 8 v) hg (put_one64 v) (by rw [Lib.leBytes_length]; omega)
    rw [Lib.leBytes_length] at this
    exact this
  have hlt : b < w.heap.size := HX.out.1.lt
  have HWr := Kp.mk (bufWrite_calls B b xs w.heap.size 0 8 8 _ w1 (HX.out.1.below hb1) hrd (by omega) (by omega) (by have := hb1.size; have := HX.out.2.1; omega) (by have := HX.out.2.2; omega))
  have HB1 := Kp.mk hb1
  have hm : ∀ W, (method 318 65 (.pointer (some ⟨b, 0, none⟩)) "Write").run Tryz.prog W = .ok (131, .pointer (some ⟨b, 0, none⟩)) W := fun _ => by kernel_rfl
  clear hrd hlt hg hs hf hb1 HP
  go_wp2_with fail
  refine HWr.out.mono ?_
  rintro e w8 ⟨rfl, hbf, hB8, hO8⟩
  have HE := Kp.mk (And.intro hbf (And.intro ((HB1.out.mono HX.out.2.1).trans hB8) (Lib.OthersKept.trans (beside_below HB1.out) hO8)))
  clear hbf hB8 hO8 HWr HB1
  go_wp2_with fail
  go_ret
  exact ⟨rfl, HE.out.1, HE.out.2.1, HE.out.2.2⟩

end Go.Proofs.YtnhnkfdhkifahaaGreatDoor
