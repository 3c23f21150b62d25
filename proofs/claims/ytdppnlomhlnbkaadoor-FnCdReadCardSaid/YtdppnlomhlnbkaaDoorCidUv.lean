/- The walks of package cid's small functions. -/
import Derived.Test.YtdppnlomhlnbkaaDoorSpecUv
import Derived.Test.YtdppnlomhlnbkaaDoorMhOne
namespace Go.Proofs.YtdppnlomhlnbkaaDoor
open Go.RowKit

set_option maxHeartbeats 1600000 in
set_option maxRecDepth 100000 in
/-- cid.uvarint, where a varint stands. -/
theorem cidUv_calls (s : ByteArray) (x n : Nat) (w : World) (hs : s.size ≤ 9223372036854775807) (hv : uvRead (bl s) = some (x, n)) :
    Calls Tryd.prog 58 #[.string s] w fun e w' => e = .returned (.tuple #[.int .u64 x, .int .i64 n, .nilIface]) ∧ w = w' := by
  go_enter Tryd.func58, Tryd.ntmps58
  go_wp2
  go_loop [5, 6, 7] (fun vx vs vi => ∃ (k acc : Nat), k ≤ s.size ∧ k ≤ 8 ∧ acc < 2 ^ (7 * k) ∧ vx = .int .u64 acc ∧ vs = .int .u64 (7 * k : Nat) ∧ vi = .int .i64 k ∧ Kp (uvFrom k acc ((bl s).drop k) = some (x, n)))
    (fun _ _ vi => s.size - (intOf vi).toNat)
  case atStart => exact ⟨0, 0, by omega, by omega, by simp, rfl, rfl, rfl, ⟨hv⟩⟩
  case round =>
    obtain ⟨k, acc, hk, hk8, hacc, rfl, rfl, rfl, hrest⟩ := hrel
    have hlt : k < s.size := by
      apply Nat.lt_of_not_le
      intro h
      have := hrest.out
      rw [List.drop_of_length_le (by rw [bl_length]; omega)] at this
      cases this
    have hd := bl_drop s k hlt
    rw [hd] at hrest
    clear hd
    have hb := s[k].toNat_lt
    have HA := Kp.mk hacc
    clear hacc
    by_cases hb1 : s[k].toNat < 128
    · have hz : s[k].toNat ≠ 0 ∨ k = 0 := by
        by_cases h0 : s[k].toNat = 0
        · by_cases hk0 : k = 0
          · exact .inr hk0
          · have := hrest.out
            rw [uvF_zero h0 (by omega) (by omega)] at this
            cases this
        · exact .inl h0
      have hend := hrest.out
      rw [uvF_last hb1 hz (by omega)] at hend
      have hend2 := Option.some.inj hend
      simp only [Prod.mk.injEq] at hend2
      have ho := Kp.mk (uv_or acc s[k].toNat k (by omega) HA.out (by omega))
      have HE := Kp.mk hend2
      have HZ := Kp.mk hz
      clear hend hend2 hrest
      by_cases hk0 : k = 0
      · subst hk0
        clear hz
        go_wp2
        all_goals go_ret3
        all_goals refine ⟨?_, rfl⟩
        all_goals rw [← HE.out.1, ← HE.out.2]
        all_goals have h := ho.out
        all_goals rw [show (2 : Int) ^ (7 * 0) = 1 from rfl, Int.mul_one, u64_wrap_id (s[0].toNat : Int) (by omega) (by omega)] at h
        · have hz0 : s[0].toNat = 0 := by assumption
          rw [hz0] at h ⊢
          simpa using h
        · simpa using h
      · have q3 : ((s[k].toNat : Int) == 0) = false := beq_eq_false_iff_ne.2 (by omega)
        clear hz
        go_wp2
        go_ret3
        exact ⟨by rw [← HE.out.1, ← HE.out.2, ← ho.out]; rfl, rfl⟩
    · have hk7 : k < 8 := by
        apply Nat.lt_of_not_le
        intro h
        have := hrest.out
        rw [uvF_over (.inl ⟨by omega, by omega⟩)] at this
        cases this
      go_wp2
      go_round
      case rel =>
        have ho := uv_or acc (s[k].toNat % 128) k (by omega) HA.out (by omega)
        have hm : 2 ^ (7 * (k + 1)) = 128 * 2 ^ (7 * k) := by rw [show 7 * (k + 1) = 7 + 7 * k from by omega, Nat.pow_add]
        have h1 : (s[k].toNat % 128) * 2 ^ (7 * k) ≤ 127 * 2 ^ (7 * k) := Nat.mul_le_mul_right _ (by omega)
        have ha := HA.out
        refine ⟨k + 1, acc + (s[k].toNat % 128) * 2 ^ (7 * k), by omega, by omega, by rw [hm]; omega, ?_, by rw [show 7 * (k + 1) = 7 * k + 7 from by omega]; go_num, by go_num, ⟨by have := hrest.out; rw [uvF_more (by omega) (by omega)] at this; exact this⟩⟩
        rw [u8_and127 _ (by omega) (by omega), u64_wrap_id ((s[k].toNat : Int) % 128) (by omega) (by omega)]
        exact congrArg (Value.int .u64) ho
      case measure => simp [intOf]; omega

end Go.Proofs.YtdppnlomhlnbkaaDoor
