/- The walks of the functions about varints that write: a varint's size, its bytes. -/
import Derived.Test.YtdppnlomhlnbkaaDoorBase
import Derived.Test.YtdppnlomhlnbkaaDoorMath
import Derived.Test.YtdppnlomhlnbkaaDoorShelf
import Derived.Lib.EndianBits
namespace Go.Proofs.YtdppnlomhlnbkaaDoor
open Go.RowKit

theorem ret_int {k : IntKind} {a b : Int} (h : a = b) : Ending.returned (.int k a) = .returned (.int k b) := by rw [h]

set_option maxHeartbeats 800000 in
/-- varint.UvarintSize: how many bytes the varint has. -/
theorem uvSize_calls (x : Nat) (w : World) (hx : x < 2 ^ 64) :
    Calls Tryd.prog 62 #[.int .u64 x] w fun e w' => e = .returned (.int .i64 (uvSize x)) ∧ w = w' := by
  have hb : Lib.bitLen x ≤ 64 := Lib.bitLen_le x 64 (by omega) hx
  have hH := Kp.mk (show uvSize x = Lib.bitLen x / 7 + if 0 < Lib.bitLen x % 7 ∨ Lib.bitLen x / 7 = 0 then 1 else 0 from rfl)
  have HL := Kp.mk (fun w => Tryd.bits_Len64 (x : Int) w (by omega) (by omega))
  generalize uvSize x = sz at *
  simp only [Int.toNat_natCast] at HL
  generalize Lib.bitLen x = b at *
  by_cases h1 : 0 < b % 7
  · go_enter Tryd.func62, Tryd.ntmps62
    go_wp2_with (go_at_call 72; refine (HL.out _).mono ?_; rintro e w' ⟨rfl, rfl⟩)
    go_ret
    exact ⟨ret_int (by rw [hH.out, if_pos (Or.inl h1)]; omega), rfl⟩
  · by_cases h2 : b / 7 = 0
    · have h3 : (((b : Int) / 7) == 0) = true := beq_iff_eq.2 (by omega)
      go_enter Tryd.func62, Tryd.ntmps62
      go_wp2_with (go_at_call 72; refine (HL.out _).mono ?_; rintro e w' ⟨rfl, rfl⟩)
      go_ret
      exact ⟨ret_int (by rw [hH.out, if_pos (Or.inr h2)]; omega), rfl⟩
    · have h3 : (((b : Int) / 7) == 0) = false := beq_eq_false_iff_ne.2 (by omega)
      go_enter Tryd.func62, Tryd.ntmps62
      go_wp2_with (go_at_call 72; refine (HL.out _).mono ?_; rintro e w' ⟨rfl, rfl⟩)
      go_ret
      exact ⟨ret_int (by rw [hH.out, if_neg (by omega)]; omega), rfl⟩

/-- Cells of a new row of zeros, some of which have been written. -/
theorem put_new (w : World) (n : Nat) (bs : List UInt8) (e : TypeId) (h : bs.length ≤ n) (hn : n ≤ 9223372036854775807) :
    RdB ((w.alloc (.cells (zeros n) e)).setCells w.heap.size 0 (Lib.byteCells bs)) (some ⟨w.heap.size, 0, none⟩) bs.length n bs := by
  refine ⟨rfl, h, hn, fun _ => ⟨_, _, rfl, fun i hi => ?_⟩⟩
  rw [World.cell?_setCells_in w.heap.size (Lib.byteCells bs) 0 _ (fun j hj => ?_) i (by rw [Lib.byteCells_length]; exact hi)]
  · simp [Lib.byteCells]
  · rw [Lib.byteCells_length] at hj
    have hz := zeros_at n j (by omega)
    simp [World.cell?, World.alloc, -World.alloc_eq, hz]

theorem new_cells (w : World) (n : Nat) (e : TypeId) (j : Nat) (h : j < n) :
    ((w.alloc (.cells (zeros n) e)).cell? ⟨w.heap.size, 0 + j, none⟩).isSome = true ∧ (w.alloc (.cells (zeros n) e)).frozen? ⟨w.heap.size, 0 + j, none⟩ = false := by
  have hz := zeros_at n j h
  simp [World.cell?, World.frozen?, World.alloc, -World.alloc_eq, hz]

theorem bel_setCells {w : World} {g : Nat} (hg : w.heap.size ≤ g) : ∀ (vs : List Value) (o : Nat) {W : World}, Below w.heap.size w W → Below w.heap.size w (W.setCells g o vs)
  | [], _, _, h => h
  | _ :: r, o, _, h => bel_setCells hg r (o + 1) (h.setCell hg _)














































end Go.Proofs.YtdppnlomhlnbkaaDoor
