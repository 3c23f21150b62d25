/- The walks of the functions about varints that write: a varint's size, its bytes. -/
import Derived.Test.YtpagaagghpopiaaDoorBase
import Derived.Test.YtpagaagghpopiaaDoorMath
import Derived.Test.YtpagaagghpopiaaDoorShelf
import Derived.Lib.EndianBits
namespace Go.Proofs.YtpagaagghpopiaaDoor
open Go.RowKit

theorem ret_int {k : IntKind} {a b : Int} (h : a = b) : Ending.returned (.int k a) = .returned (.int k b) := by rw [h]

set_option maxHeartbeats 800000 in
/-- varint.UvarintSize: how many bytes the varint has. -/
theorem uvSize_calls (x : Nat) (w : World) (hx : x < 2 ^ 64) :
    Calls Tryd.prog 31 #[.int .u64 x] w fun e w' => e = .returned (.int .i64 (uvSize x)) ∧ w = w' := by
  have hb : Lib.bitLen x ≤ 64 := Lib.bitLen_le x 64 (by omega) hx
  have hH := Kp.mk (show uvSize x = Lib.bitLen x / 7 + if 0 < Lib.bitLen x % 7 ∨ Lib.bitLen x / 7 = 0 then 1 else 0 from rfl)
  have HL := Kp.mk (fun w => Tryd.bits_Len64 (x : Int) w (by omega) (by omega))
  generalize uvSize x = sz at *
  simp only [Int.toNat_natCast] at HL
  generalize Lib.bitLen x = b at *
  by_cases h1 : 0 < b % 7
  · go_enter Tryd.func31, Tryd.ntmps31
    go_wp2_with (go_at_call 45; refine (HL.out _).mono ?_; rintro e w' ⟨rfl, rfl⟩)
    go_ret
    exact ⟨ret_int (by rw [hH.out, if_pos (Or.inl h1)]; omega), rfl⟩
  · by_cases h2 : b / 7 = 0
    · have h3 : (((b : Int) / 7) == 0) = true := beq_iff_eq.2 (by omega)
      go_enter Tryd.func31, Tryd.ntmps31
      go_wp2_with (go_at_call 45; refine (HL.out _).mono ?_; rintro e w' ⟨rfl, rfl⟩)
      go_ret
      exact ⟨ret_int (by rw [hH.out, if_pos (Or.inr h2)]; omega), rfl⟩
    · have h3 : (((b : Int) / 7) == 0) = false := beq_eq_false_iff_ne.2 (by omega)
      go_enter Tryd.func31, Tryd.ntmps31
      go_wp2_with (go_at_call 45; refine (HL.out _).mono ?_; rintro e w' ⟨rfl, rfl⟩)
      go_ret
      exact ⟨ret_int (by rw [hH.out, if_neg (by omega)]; omega), rfl⟩

/-- Cells of a new row of zeros, some of which have been written. -/
theorem put_new (w : World) (n : Nat) (bs : List UInt8) (e : TypeId) (h : bs.length ≤ n) (hn : n ≤ 9223372036854775807) :
    RdB ((w.alloc (.cells (zeros n) e)).setCells w.heap.size 0 (Lib.byteCells bs)) (some ⟨w.heap.size, 0, none⟩) bs.length n bs := by
  refine ⟨rfl, h, hn, fun _ => ⟨_, _, rfl, fun i hi => ?_⟩⟩
  rw [World.cell?_setCells_in w.heap.size (Lib.byteCells bs) 0 _ (fun j hj => ?_) i (by rw [Lib.byteCells_length]; exact hi)]
  · simp [Lib.byteCells]
  · rw [Lib.byteCells_length] at hj
    have hz := zeros_at n j (by omega)
    simp [World.cell?, World.alloc, -World.alloc_eq, hz]

theorem new_cells (w : World) (n : Nat) (e : TypeId) (j : Nat) (h : j < n) :
    ((w.alloc (.cells (zeros n) e)).cell? ⟨w.heap.size, 0 + j, none⟩).isSome = true ∧ (w.alloc (.cells (zeros n) e)).frozen? ⟨w.heap.size, 0 + j, none⟩ = false := by
  have hz := zeros_at n j h
  simp [World.cell?, World.frozen?, World.alloc, -World.alloc_eq, hz]

theorem bel_setCells {w : World} {g : Nat} (hg : w.heap.size ≤ g) : ∀ (vs : List Value) (o : Nat) {W : World}, Below w.heap.size w W → Below w.heap.size w (W.setCells g o vs)
  | [], _, _, h => h
  | _ :: r, o, _, h => bel_setCells hg r (o + 1) (h.setCell hg _)

set_option maxHeartbeats 800000 in
/-- varint.ToUvarint: the varint's bytes, in a new slice. -/
theorem toUv_calls (x : Nat) (w : World) (hx : x < 2 ^ 64) :
    Calls Tryd.prog 29 #[.int .u64 x] w fun e w' => (∃ c, e = .returned (.slice (some ⟨w.heap.size, 0, none⟩) (Lib.uvarint x).length c) ∧ RdB w' (some ⟨w.heap.size, 0, none⟩) (Lib.uvarint x).length c (Lib.uvarint x)) ∧ Below w.heap.size w w' := by
  have hs := uvSize_le hx
  have hs1 := uvSize_pos hx
  have hl := Kp.mk (uvarint_len x hx)
  have HS := Kp.mk (fun w => uvSize_calls x w hx)
  have hmk := fun W => mk_bytes 59 Tryd.underlying59 (uvSize x) (by omega) W
  have HP := Kp.mk (Tryd.binary_PutUvarint w.heap.size 0 (uvSize x) (uvSize x) x hx (w.alloc (.cells (zeros (uvSize x)) 5)) (by rw [uvarint_len x hx]; omega) (fun j hj => new_cells w _ _ j (by rw [uvarint_len x hx] at hj; exact hj)))
  rw [uvarint_len x hx] at HP
  generalize uvSize x = sz at *
  clear hx
  go_enter Tryd.func29, Tryd.ntmps29
  go_wp2_with (go_at_call 31; refine (HS.out _).mono ?_; rintro e w' ⟨rfl, rfl⟩)
  refine HP.out.mono ?_
  rintro e w1 ⟨rfl, hw⟩
  have HQ := Kp.mk hw
  clear hw
  go_wp2_with fail
  go_ret
  refine ⟨⟨sz, by rw [hl.out]; rfl, ?_⟩, ?_⟩
  · have := put_new w sz (Lib.uvarint x) 5 (by rw [hl.out]; omega) (by omega)
    rw [← HQ.out] at this
    exact this
  · rw [HQ.out]
    exact bel_setCells (Nat.le_refl _) _ _ (bel_alloc (Below.refl _ _) _)

set_option maxHeartbeats 800000 in
/-- impl.UvPut: a number's varint as a string. -/
theorem uvPut_calls (x : Nat) (w : World) (hx : x < 2 ^ 64) :
    Calls Tryd.prog 13 #[.int .u64 x] w fun e w' => e = .returned (.string (strB (Lib.uvarint x))) ∧ Below w.heap.size w w' := by
  have HT := Kp.mk (fun w => toUv_calls x w hx)
  clear hx
  go_enter Tryd.func13, Tryd.ntmps13
  go_wp2_with fail
  refine (HT.out _).mono ?_
  rintro e w1 ⟨⟨c, rfl, hr⟩, hb⟩
  have hcv := rd_string hr 59 9 Tryd.underlying59 Tryd.underlying9
  have HB := Kp.mk hb; clear hr hb
  go_wp2_with fail
  go_ret
  exact ⟨rfl, HB.out⟩


end Go.Proofs.YtpagaagghpopiaaDoor
