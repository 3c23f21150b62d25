/- The walk of the law FnUvEnds. -/
import Derived.Test.YtpagaagghpopiaaDoorUvLaws
namespace Go.Proofs.YtpagaagghpopiaaDoor
open Go.RowKit

theorem uvarint_lt : ∀ (k x : Nat), x < 128 ^ (k + 1) → (Lib.uvarint x).length ≤ k + 1 := fun k x h => Lib.uvarint_length k x h
/-- The ends of k groups of seven bits. -/
theorem uv_end_len (r y j : Nat) (hr : r ≤ 8) (hj : j < 64) (hy : y = 2 ^ (7 * (r + 1)) - 1 - j) : (Lib.uvarint y).length = r + 1 ∧ y < 2 ^ 63 ∧ y < 2 ^ 64 := by
  have e : 2 ^ (7 * (r + 1)) = 128 ^ (r + 1) := by rw [Nat.pow_mul]
  have e2 : (128 : Nat) ^ (r + 1) = 128 * 128 ^ r := by rw [Nat.pow_succ, Nat.mul_comm]
  have hp : 1 ≤ (128 : Nat) ^ r := Nat.pos_of_ne_zero (by simp)
  have h63 : (2 : Nat) ^ (7 * (r + 1)) ≤ 2 ^ 63 := Nat.pow_le_pow_right (by omega) (by omega)
  have h1 := uvarint_lt r y (by omega)
  have h2 := uvarint_ge r y (by omega)
  omega
theorem uv_next_len (r N : Nat) (hr : r ≤ 8) (hN : N = 2 ^ (7 * (r + 1))) : (Lib.uvarint N).length = r + 2 ∧ N ≤ 2 ^ 63 := by
  have e : 2 ^ (7 * (r + 1)) = 128 ^ (r + 1) := by rw [Nat.pow_mul]
  have e2 : (128 : Nat) ^ (r + 1 + 1) = 128 * 128 ^ (r + 1) := by rw [Nat.pow_succ, Nat.mul_comm]
  have hp : 1 ≤ (128 : Nat) ^ (r + 1) := Nat.pos_of_ne_zero (by simp)
  have h63 : (2 : Nat) ^ (7 * (r + 1)) ≤ 2 ^ 63 := Nat.pow_le_pow_right (by omega) (by omega)
  have h1 := uvarint_lt (r + 1) N (by omega)
  have h2 := uvarint_ge (r + 1) N (by omega)
  omega

set_option maxHeartbeats 1600000 in
set_option maxRecDepth 100000 in
/-- laws.FnUvEnds. -/
theorem uvEnds_walk (g k : Nat) (w : World) (hg : g < 256) (hk : k < 256) (he : UvErrs w) :
    Calls Tryd.prog 5 #[.int .u8 g, .int .u8 k] w fun e w' => e = .returned (.bool true) ∧ Below w.heap.size w w' := by
  obtain ⟨r, hr⟩ : ∃ r : Nat, r = g % 9 := ⟨_, rfl⟩
  have hr9 : r < 9 := by omega
  have hrg : (g : Int) % 9 = (r : Int) := by omega
  obtain ⟨N, hN⟩ : ∃ N : Nat, N = 2 ^ (7 * (r + 1)) := ⟨_, rfl⟩
  obtain ⟨y, hy⟩ : ∃ y : Nat, y = 2 ^ (7 * (r + 1)) - 1 - k % 64 := ⟨_, rfl⟩
  obtain ⟨hly, hy63, hy64⟩ := uv_end_len r y (k % 64) (by omega) (by omega) hy
  obtain ⟨hlN, hN63⟩ := uv_next_len r N (by omega) hN
  have hN128 : 128 ≤ N := by rw [hN]; exact Nat.le_trans (show 128 ≤ 2 ^ 7 by decide) (Nat.pow_le_pow_right (by omega) (by omega))
  rw [← hN] at hy
  have HPy := Kp.mk (fun w => uvPut_calls y w hy64)
  have HPN := Kp.mk (fun w => uvPut_calls N w (by omega))
  have HE := Kp.mk he
  have HRy := Kp.mk (fun w he => uvRead_calls (strB (Lib.uvarint y)) w (by rw [strB_size]; omega) he)
  rw [bl_strB, show uvRead (Lib.uvarint y) = some (y, r + 1) by have := uvRead_uvarint [] (show (Lib.uvarint y).length ≤ 9 by omega); rw [List.append_nil] at this; rw [this, hly]] at HRy
  have HRN := Kp.mk (fun w he => uvRead_calls (strB (Lib.uvarint N)) w (by rw [strB_size]; omega) he)
  rw [bl_strB] at HRN
  have hsy : (strB (Lib.uvarint y)).size = r + 1 := by rw [strB_size, hly]
  have hsN : (strB (Lib.uvarint N)).size = r + 2 := by rw [strB_size, hlN]
  clear he hr hly
  by_cases h8 : r < 8
  · rw [show uvRead (Lib.uvarint N) = some (N, r + 2) by have := uvRead_uvarint [] (show (Lib.uvarint N).length ≤ 9 by omega); rw [List.append_nil] at this; rw [this, hlN]] at HRN
    have h9 : ((r : Int) + 1 == 9) = false := beq_eq_false_iff_ne.2 (by omega)
    have hn : IntKind.u64.wrap (2 ^ (7 * (r + 1))) = (N : Int) := by
      have : (2 : Int) ^ (7 * (r + 1)) = ((2 ^ (7 * (r + 1)) : Nat) : Int) := by simp
      rw [this, ← hN, u64_wrap_id _ (by omega) (by omega)]
    have hm : IntKind.u64.wrap ((N : Int) - 1) = ((N - 1 : Nat) : Int) := by rw [u64_wrap_id _ (by omega) (by omega)]; omega
    have hyy : IntKind.u64.wrap (((N - 1 : Nat) : Int) - (k : Int) % 64) = (y : Int) := by rw [u64_wrap_id _ (by omega) (by omega)]; omega
    have HSy := Kp.mk (fun w => uvSz_calls y w hy64)
    have HSN := Kp.mk (fun w => uvSz_calls N w (by omega))
    rw [← uvarint_len y hy64, ← strB_size, hsy] at HSy
    rw [← uvarint_len N (by omega), hlN] at HSN
    generalize N - 1 = M at *
    have HSZ := Kp.mk hsN
    generalize strB (Lib.uvarint y) = sy at *
    generalize strB (Lib.uvarint N) = sN at *
    have q1 : ((sy.size : Int) == (r : Int) + 1) = true := beq_iff_eq.2 (by rw [hsy]; omega)
    have q2 : ((sN.size : Int) == (r : Int) + 1 + 1) = true := beq_iff_eq.2 (by rw [hsN]; omega)
    have q2' : ((sN.size : Int) == (r : Int) + 2) = true := beq_iff_eq.2 (by rw [hsN]; omega)
    clear hsy hsN hlN hN hy hy63 hy64 hN63 HSZ hN128
    go_enter Tryd.func5, Tryd.ntmps5
    go_wp2_with fail
    refine (HPy.out _).mono ?_
    rintro e w1 ⟨rfl, hb⟩
    have HE1 := Kp.mk (HE.out.below hb)
    have HB := Kp.mk hb
    clear HPy HE hb
    go_wp2_with fail
    refine (HPN.out _).mono ?_
    rintro e w2 ⟨rfl, hb⟩
    have HE2 := Kp.mk (HE1.out.below hb)
    have HB2 := Kp.mk (bel_then HB.out hb)
    clear HPN HE1 hb HB
    go_wp2_with fail
    refine (HRy.out _ HE2.out).mono ?_
    rintro e w3 ⟨hu, hb⟩
    obtain rfl : e = _ := hu
    have HE3 := Kp.mk (HE2.out.below hb)
    have HB3 := Kp.mk (bel_then HB2.out hb)
    clear HRy HE2 hb HB2
    go_wp2_with fail
    refine (HRN.out _ HE3.out).mono ?_
    rintro e w4 ⟨hu, hb⟩
    obtain rfl : e = _ := hu
    have HB4 := Kp.mk (bel_then HB3.out hb)
    clear HRN HE3 hb HB3
    go_wp2_with fail
    refine (HSy.out _).mono ?_
    rintro e w5 ⟨rfl, rfl⟩
    go_wp2_with fail
    refine (HSN.out _).mono ?_
    rintro e w6 ⟨rfl, rfl⟩
    go_wp2_with fail
    go_ret
    exact ⟨rfl, HB4.out⟩
  · obtain rfl : r = 8 := by omega
    have hNe : N = 9223372036854775808 := by rw [hN]
    rw [show uvRead (Lib.uvarint N) = none by have := uvRead_long [] (show 9 < (Lib.uvarint N).length by omega); rw [List.append_nil] at this; exact this] at HRN
    rw [hNe] at HPN HRN
    have hyy : (9223372036854775807 : Int) - (k : Int) % 64 = (y : Int) := by omega
    rw [hNe] at hsN
    clear hN hy63 hy64 hN63 hN128 hlN hy hNe
    generalize strB (Lib.uvarint y) = sy at *
    generalize strB (Lib.uvarint 9223372036854775808) = sN at *
    have q1 : ((sy.size : Int) == 9) = true := beq_iff_eq.2 (by rw [hsy]; rfl)
    have q2 : ((sN.size : Int) == 10) = true := beq_iff_eq.2 (by rw [hsN]; rfl)
    have HLN := Kp.mk (fun w => HPN.out w)
    clear hsy hsN
    go_enter Tryd.func5, Tryd.ntmps5
    go_wp2_with fail
    refine (HPy.out _).mono ?_
    rintro e w1 ⟨rfl, hb⟩
    have HE1 := Kp.mk (HE.out.below hb)
    have HB := Kp.mk hb
    clear HPy HE hb
    go_wp2_with fail
    refine (HPN.out _).mono ?_
    rintro e w2 ⟨rfl, hb⟩
    have HE2 := Kp.mk (HE1.out.below hb)
    have HB2 := Kp.mk (bel_then HB.out hb)
    clear HPN HE1 hb HB HLN
    go_wp2_with fail
    refine (HRy.out _ HE2.out).mono ?_
    rintro e w3 ⟨hu, hb⟩
    obtain rfl : e = _ := hu
    have HE3 := Kp.mk (HE2.out.below hb)
    have HB3 := Kp.mk (bel_then HB2.out hb)
    clear HRy HE2 hb HB2
    go_wp2_with fail
    refine (HRN.out _ HE3.out).mono ?_
    rintro e w4 ⟨⟨z, n, rfl⟩, hb⟩
    have HB4 := Kp.mk (bel_then HB3.out hb)
    clear HRN HE3 hb HB3
    go_wp2_with fail
    go_ret
    exact ⟨rfl, HB4.out⟩
end Go.Proofs.YtpagaagghpopiaaDoor
