/- The walk of laws.ixNumber at the sizes 4 and 8. Printed by gen-ixnum.py. -/
import Derived.Test.YtnhnkfdhkifahaaGreatDoorIxBy
import Derived.Handy
namespace Go.Proofs.YtnhnkfdhkifahaaGreatDoor
open Go.RowKit

def ixn4 (x : Nat) : Array Value := #[.int .u8 ((x : Int) % 256), .int .u8 ((x : Int) / 256 % 256), .int .u8 ((x : Int) / 65536 % 256), .int .u8 ((x : Int) / 16777216 % 256)]
theorem ixl4 (x : Nat) : Lib.leBytes 4 x = [(x % 256).toUInt8, (x / 256 % 256).toUInt8, (x / 65536 % 256).toUInt8, (x / 16777216 % 256).toUInt8] := by
  simp [Lib.leBytes, Nat.div_div_eq_div_mul]
theorem ixr4 (w : World) (x : Nat) (t : TypeId) : RdB (w.alloc (.cells (ixn4 x) t)) (some ⟨w.heap.size, 0, none⟩) 4 4 (Lib.leBytes 4 x) := by
  rw [ixl4]
  refine ⟨rfl, Nat.le_refl _, by omega, fun _ => ⟨_, _, rfl, fun i hi => ?_⟩⟩
  rw [blk_cell (g := w.heap.size) (t := t) (cs := ixn4 x) (by simp [World.alloc, -World.alloc_eq])]
  match i, hi with
  | 0, _ => simp only [ixn4]; rw [List.getElem_cons_zero, Lib.toUInt8_mod]; rfl
  | 1, _ => simp only [ixn4, List.getElem_cons_succ, List.getElem_cons_zero, Lib.toUInt8_mod]; rfl
  | 2, _ => simp only [ixn4, List.getElem_cons_succ, List.getElem_cons_zero, Lib.toUInt8_mod]; rfl
  | 3, _ => simp only [ixn4, List.getElem_cons_succ, List.getElem_cons_zero, Lib.toUInt8_mod]; rfl

set_option maxHeartbeats 4000000 in
set_option maxRecDepth 100000 in
/-- laws.ixNumber of 4 bytes. -/
theorem ixNum4_calls (x : Nat) (w : World) (hx : x < 2 ^ 64) :
    Calls Tryz.prog 6 #[.int .u64 x, .int .i64 4] w fun e w' => e = .returned (.string (strB (Lib.leBytes 4 x))) ∧ Below w.heap.size w w' := by
  have hcv := rd_string (ixr4 w x 5) 33 9 Tryz.underlying33 Tryz.underlying9
  unfold ixn4 at hcv
  have hmk : (Instr.makeSlice 33 (.int .i64 4) (.int .i64 4)).run Tryz.prog w = .ok (.slice (some ⟨w.heap.size, 0, none⟩) 4 4) (w.alloc (.cells #[.int .u8 0, .int .u8 0, .int .u8 0, .int .u8 0] 5)) := mk_bytes 33 Tryz.underlying33 4 (by omega) w
  have HX := Kp.mk hx
  clear hx
  go_enter Tryz.func6, Tryz.ntmps6
  go_wp2
  go_rounds 5
  go_wp2
  go_ret
  exact ⟨rfl, bel_alloc (Below.refl _ _) _⟩

def ixn8 (x : Nat) : Array Value := #[.int .u8 ((x : Int) % 256), .int .u8 ((x : Int) / 256 % 256), .int .u8 ((x : Int) / 65536 % 256), .int .u8 ((x : Int) / 16777216 % 256), .int .u8 ((x : Int) / 4294967296 % 256), .int .u8 ((x : Int) / 1099511627776 % 256), .int .u8 ((x : Int) / 281474976710656 % 256), .int .u8 ((x : Int) / 72057594037927936 % 256)]
theorem ixl8 (x : Nat) : Lib.leBytes 8 x = [(x % 256).toUInt8, (x / 256 % 256).toUInt8, (x / 65536 % 256).toUInt8, (x / 16777216 % 256).toUInt8, (x / 4294967296 % 256).toUInt8, (x / 1099511627776 % 256).toUInt8, (x / 281474976710656 % 256).toUInt8, (x / 72057594037927936 % 256).toUInt8] := by
  simp [Lib.leBytes, Nat.div_div_eq_div_mul]
theorem ixr8 (w : World) (x : Nat) (t : TypeId) : RdB (w.alloc (.cells (ixn8 x) t)) (some ⟨w.heap.size, 0, none⟩) 8 8 (Lib.leBytes 8 x) := by
  rw [ixl8]
  refine ⟨rfl, Nat.le_refl _, by omega, fun _ => ⟨_, _, rfl, fun i hi => ?_⟩⟩
  rw [blk_cell (g := w.heap.size) (t := t) (cs := ixn8 x) (by simp [World.alloc, -World.alloc_eq])]
  match i, hi with
  | 0, _ => simp only [ixn8]; rw [List.getElem_cons_zero, Lib.toUInt8_mod]; rfl
  | 1, _ => simp only [ixn8, List.getElem_cons_succ, List.getElem_cons_zero, Lib.toUInt8_mod]; rfl
  | 2, _ => simp only [ixn8, List.getElem_cons_succ, List.getElem_cons_zero, Lib.toUInt8_mod]; rfl
  | 3, _ => simp only [ixn8, List.getElem_cons_succ, List.getElem_cons_zero, Lib.toUInt8_mod]; rfl
  | 4, _ => simp only [ixn8, List.getElem_cons_succ, List.getElem_cons_zero, Lib.toUInt8_mod]; rfl
  | 5, _ => simp only [ixn8, List.getElem_cons_succ, List.getElem_cons_zero, Lib.toUInt8_mod]; rfl
  | 6, _ => simp only [ixn8, List.getElem_cons_succ, List.getElem_cons_zero, Lib.toUInt8_mod]; rfl
  | 7, _ => simp only [ixn8, List.getElem_cons_succ, List.getElem_cons_zero, Lib.toUInt8_mod]; rfl

set_option maxHeartbeats 4000000 in
set_option maxRecDepth 100000 in
/-- laws.ixNumber of 8 bytes. -/
theorem ixNum8_calls (x : Nat) (w : World) (hx : x < 2 ^ 64) :
    Calls Tryz.prog 6 #[.int .u64 x, .int .i64 8] w fun e w' => e = .returned (.string (strB (Lib.leBytes 8 x))) ∧ Below w.heap.size w w' := by
  have hcv := rd_string (ixr8 w x 5) 33 9 Tryz.underlying33 Tryz.underlying9
  unfold ixn8 at hcv
  have hmk : (Instr.makeSlice 33 (.int .i64 8) (.int .i64 8)).run Tryz.prog w = .ok (.slice (some ⟨w.heap.size, 0, none⟩) 8 8) (w.alloc (.cells #[.int .u8 0, .int .u8 0, .int .u8 0, .int .u8 0, .int .u8 0, .int .u8 0, .int .u8 0, .int .u8 0] 5)) := mk_bytes 33 Tryz.underlying33 8 (by omega) w
  have HX := Kp.mk hx
  clear hx
  go_enter Tryz.func6, Tryz.ntmps6
  go_wp2
  go_rounds 9
  go_wp2
  go_ret
  exact ⟨rfl, bel_alloc (Below.refl _ _) _⟩

end Go.Proofs.YtnhnkfdhkifahaaGreatDoor
