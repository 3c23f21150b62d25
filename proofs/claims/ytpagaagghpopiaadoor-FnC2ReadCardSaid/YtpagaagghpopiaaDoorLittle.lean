/- The walks of the reference's functions that write a header of version 2. -/
import Derived.Test.YtpagaagghpopiaaDoorMhEnc
import Derived.Test.YtpagaagghpopiaaDoorGrow
import Derived.Handy
import Derived.Lib.Endian
namespace Go.Proofs.YtpagaagghpopiaaDoor
open Go.RowKit

theorem strB_append (a b : List UInt8) : strB a ++ strB b = strB (a ++ b) := by
  apply ByteArray.ext; simp [strB, ByteArray.data_append]
/-- The eight bytes of a number as they are stored. -/
def le8 (x : Nat) : Array Value := #[.int .u8 ((x : Int) % 256), .int .u8 ((x : Int) / 256 % 256), .int .u8 ((x : Int) / 65536 % 256), .int .u8 ((x : Int) / 16777216 % 256), .int .u8 ((x : Int) / 4294967296 % 256), .int .u8 ((x : Int) / 1099511627776 % 256), .int .u8 ((x : Int) / 281474976710656 % 256), .int .u8 ((x : Int) / 72057594037927936 % 256)]
theorem leBytes8 (x : Nat) : Lib.leBytes 8 x = [(x % 256).toUInt8, (x / 256 % 256).toUInt8, (x / 65536 % 256).toUInt8, (x / 16777216 % 256).toUInt8, (x / 4294967296 % 256).toUInt8, (x / 1099511627776 % 256).toUInt8, (x / 281474976710656 % 256).toUInt8, (x / 72057594037927936 % 256).toUInt8] := by
  simp [Lib.leBytes, Nat.div_div_eq_div_mul]
theorem rd_le8 (w : World) (x : Nat) (t : TypeId) : RdB (w.alloc (.cells (le8 x) t)) (some ⟨w.heap.size, 0, none⟩) 8 8 (Lib.leBytes 8 x) := by
  rw [leBytes8]
  refine ⟨rfl, Nat.le_refl _, by omega, fun _ => ⟨_, _, rfl, fun i hi => ?_⟩⟩
  rw [blk_cell (g := w.heap.size) (t := t) (cs := le8 x) (by simp [World.alloc, -World.alloc_eq])]
  match i, hi with
  | 0, _ => simp only [le8]; rw [List.getElem_cons_zero, Lib.toUInt8_mod]; rfl
  | 1, _ => simp only [le8, List.getElem_cons_succ, List.getElem_cons_zero, Lib.toUInt8_mod]; rfl
  | 2, _ => simp only [le8, List.getElem_cons_succ, List.getElem_cons_zero, Lib.toUInt8_mod]; rfl
  | 3, _ => simp only [le8, List.getElem_cons_succ, List.getElem_cons_zero, Lib.toUInt8_mod]; rfl
  | 4, _ => simp only [le8, List.getElem_cons_succ, List.getElem_cons_zero, Lib.toUInt8_mod]; rfl
  | 5, _ => simp only [le8, List.getElem_cons_succ, List.getElem_cons_zero, Lib.toUInt8_mod]; rfl
  | 6, _ => simp only [le8, List.getElem_cons_succ, List.getElem_cons_zero, Lib.toUInt8_mod]; rfl
  | 7, _ => simp only [le8, List.getElem_cons_succ, List.getElem_cons_zero, Lib.toUInt8_mod]; rfl

set_option maxHeartbeats 4000000 in
set_option maxRecDepth 100000 in
/-- spec.little. -/
theorem little_calls (x : Nat) (w : World) (hx : x < 2 ^ 64) :
    Calls Tryd.prog 28 #[.int .u64 x] w fun e w' => e = .returned (.string (strB (Lib.leBytes 8 x))) ∧ Below w.heap.size w w' := by
  have hcv := rd_string (rd_le8 w x 91) 59 9 Tryd.underlying59 Tryd.underlying9
  unfold le8 at hcv
  have HX := Kp.mk hx
  clear hx
  go_enter Tryd.func28, Tryd.ntmps28
  go_wp2
  go_rounds 9
  go_wp2
  go_ret
  exact ⟨rfl, bel_alloc (Below.refl _ _) _⟩

end Go.Proofs.YtpagaagghpopiaaDoor
