/- The walk of the law FnUvBits, and the arithmetic of a varint's bytes. -/
import Derived.Test.YtpagaagghpopiaaUvW
import Derived.Lib.EndianBits
namespace Go.Proofs.Ytpagaagghpopiaa
open Go.RowKit

/-- Byte k of a varint: seven bits of the number, and 128 if another byte follows. -/
theorem uvarint_get (x : Nat) : ∀ k (h : k < (Lib.uvarint x).length), ((Lib.uvarint x)[k]).toNat = x / 128 ^ k % 128 + (if k + 1 < (Lib.uvarint x).length then 128 else 0) := by
  induction x using Nat.strongRecOn with
  | _ x ih =>
    intro k h
    by_cases hx : x < 128
    · have e := Lib.uvarint_small hx
      simp only [e, List.length_cons, List.length_nil] at h
      obtain rfl : k = 0 := by omega
      simp only [e, List.getElem_cons_zero, Lib.toUInt8_toNat (show x < 256 by omega), List.length_cons, List.length_nil]
      simp; omega
    · have e := Lib.uvarint_big (show 128 ≤ x by omega)
      have hp := Lib.uvarint_pos (x / 128)
      cases k with
      | zero =>
        simp only [e, List.getElem_cons_zero, Lib.toUInt8_toNat (show x % 128 + 128 < 256 by omega), List.length_cons]
        rw [if_pos (by omega)]; simp
      | succ k =>
        simp only [e, List.length_cons] at h
        have := ih (x / 128) (by omega) k (by omega)
        simp only [e, List.getElem_cons_succ, List.length_cons, this]
        rw [Nat.div_div_eq_div_mul, Nat.mul_comm 128, ← Nat.pow_succ]
        by_cases hc : k + 1 < (Lib.uvarint (x / 128)).length
        · rw [if_pos hc, if_pos (by omega)]
        · rw [if_neg hc, if_neg (by omega)]
theorem uvarint_top (x : Nat) : x < 128 ^ (Lib.uvarint x).length ∧ (1 < (Lib.uvarint x).length → 128 ^ ((Lib.uvarint x).length - 1) ≤ x) := by
  induction x using Nat.strongRecOn with
  | _ x ih =>
    by_cases hx : x < 128
    · rw [Lib.uvarint_small hx]; simp; omega
    · have hp := Lib.uvarint_pos (x / 128)
      obtain ⟨h1, h2⟩ := ih (x / 128) (by omega)
      rw [Lib.uvarint_big (by omega), List.length_cons]
      generalize (Lib.uvarint (x / 128)).length = n at *
      refine ⟨by rw [Nat.pow_succ]; omega, fun _ => ?_⟩
      rw [Nat.add_sub_cancel]
      obtain ⟨m, rfl⟩ : ∃ m, n = m + 1 := ⟨n - 1, by omega⟩
      rw [Nat.pow_succ]
      by_cases hm : m = 0
      · subst hm; simp; omega
      · have := h2 (by omega)
        rw [Nat.add_sub_cancel] at this
        omega

theorem or_add (k acc d : Nat) (hacc : acc < 2 ^ (7 * k)) (hlt : d * 2 ^ (7 * k) < 18446744073709551616) (ha : acc < 18446744073709551616) :
    bits .or .u64 (acc : Int) (IntKind.u64.wrap ((d : Int) * 2 ^ (7 * k))) = ((acc + d * 2 ^ (7 * k) : Nat) : Int) := by
  have e : ((d : Int) * 2 ^ (7 * k)) = ((d * 2 ^ (7 * k) : Nat) : Int) := by simp
  rw [e, u64_wrap_id _ (by omega) (by omega)]
  have e2 : (2 : Int) ^ (7 * k) = ((2 ^ (7 * k) : Nat) : Int) := by simp
  have hm : ((d * 2 ^ (7 * k) : Nat) : Int) % 2 ^ (7 * k) = 0 := by rw [e2, ← Int.natCast_emod, Nat.mul_mod_left]; rfl
  have h := bits_join_low .u64 64 (by decide) wraps_u64 (7 * k) (acc : Int) ((d * 2 ^ (7 * k) : Nat) : Int) (by omega) (by rw [e2]; omega) (by omega) (by omega) hm (by omega)
  rw [h]; omega

theorem strB_get (bs : List UInt8) (k : Nat) (h : k < (strB bs).size) : (strB bs)[k] = bs[k]'(by rw [strB_size] at h; exact h) := rfl

set_option maxHeartbeats 1600000 in
set_option maxRecDepth 100000 in
/-- laws.FnUvBits. -/
theorem uvBits_walk (x : Nat) (w : World) (hx : x < 18446744073709551616) :
    Calls Try.prog 4 #[.int .u64 x] w fun e w' => e = .returned (.bool true) ∧ Below w.heap.size w w' := by
  have HP := Kp.mk (fun w => uvPut_calls x w hx)
  have hlen := strB_size (Lib.uvarint x)
  have hpos := Lib.uvarint_pos x
  have hle := Lib.uvarint_length64 (x := x) hx
  have htop := Kp.mk (uvarint_top x)
  have hget := Kp.mk (fun k (h : k < (strB (Lib.uvarint x)).size) => show ((strB (Lib.uvarint x))[k]).toNat = x / 128 ^ k % 128 + (if k + 1 < (strB (Lib.uvarint x)).size then 128 else 0) by
    have := uvarint_get x k (by rw [strB_size] at h; exact h)
    rw [strB_get, this, strB_size])
  rw [← hlen] at hpos hle htop
  have HX := Kp.mk hx
  clear hlen hx
  generalize strB (Lib.uvarint x) = s at *
  by_cases h1 : s.size = 1
  · have q0 : ((s.size : Int) == 1) = true := beq_iff_eq.2 (by omega)
    have q1 : decide ((1 : Int) < (s.size : Int)) = false := decide_eq_false (by omega)
    have h1' : s.size ≤ 1 := by omega
    have H1 := Kp.mk h1
    clear h1
    go_enter Try.func4, Try.ntmps4
    go_wp2_with fail
    refine (HP.out _).mono ?_
    rintro e w1 ⟨rfl, hb⟩
    have HB := Kp.mk hb
    clear HP hb
    go_wp2_with fail
    go_loop [4, 5] (fun va vk => ∃ k acc : Nat, k ≤ s.size ∧ va = .int .u64 acc ∧ vk = .int .i64 k ∧ Kp (acc = x % 128 ^ k)) (fun _ vk => s.size - (intOf vk).toNat)
    case atStart => exact ⟨0, 0, by omega, rfl, rfl, ⟨by simp [Nat.mod_one]⟩⟩
    case round =>
      obtain ⟨k, acc, hk, rfl, rfl, hacc⟩ := hrel
      by_cases hlt : k < s.size
      · have hg := hget.out k hlt
        have hge : (!decide ((128 : Int) ≤ (s[k].toNat : Int)) == decide ((k : Int) < (s.size : Int) - 1)) = false := by
          by_cases hc : k + 1 < s.size
          · rw [if_pos hc] at hg
            rw [decide_eq_true (show (128 : Int) ≤ (s[k].toNat : Int) by omega), decide_eq_true (show (k : Int) < (s.size : Int) - 1 by omega)]; rfl
          · rw [if_neg hc] at hg
            rw [decide_eq_false (show ¬ (128 : Int) ≤ (s[k].toNat : Int) by omega), decide_eq_false (show ¬ (k : Int) < (s.size : Int) - 1 by omega)]; rfl
        have HG := Kp.mk hg
        clear hg
        go_wp2
        · go_round
          case rel =>
            have hb := s[k].toNat_lt
            have hd : s[k].toNat % 128 = x / 128 ^ k % 128 := by rw [HG.out]; split <;> omega
            have hX := HX.out
            have e7 : (2 : Nat) ^ (7 * k) = 128 ^ k := by rw [Nat.pow_mul]
            have hpk : 1 ≤ (128 : Nat) ^ k := Nat.pos_of_ne_zero (by simp)
            have hsum : x % 128 ^ (k + 1) = x % 128 ^ k + x / 128 ^ k % 128 * 128 ^ k := by
              rw [Nat.pow_succ, Nat.mod_mul, Nat.mul_comm (x / 128 ^ k % 128)]
            have hle2 : x % 128 ^ (k + 1) ≤ x := Nat.mod_le _ _
            have hacc' := hacc.out
            have ho := or_add k acc (s[k].toNat % 128) (by rw [e7, hacc']; exact Nat.mod_lt _ (by omega)) (by rw [hd, e7]; omega) (by omega)
            refine ⟨k + 1, x % 128 ^ (k + 1), by omega, ?_, by go_num, ⟨rfl⟩⟩
            rw [show bits .and .u8 ((s[k].toNat : Nat) : Int) 127 = ((s[k].toNat % 128 : Nat) : Int) from (bits_mask .u8 8 (by decide) wraps_u8 7 (by decide) _ (by omega) (by omega)), u64_wrap_id ((s[k].toNat % 128 : Nat) : Int) (by omega) (by omega), ho, hd, e7, hacc', hsum]
          case measure => simp [intOf]; omega
      · obtain rfl : k = s.size := by omega
        have hax : ((acc : Int) == (x : Int)) = true := beq_iff_eq.2 (by rw [hacc.out, Nat.mod_eq_of_lt htop.out.1])
        go_wp2
        go_ret
        exact ⟨rfl, HB.out⟩
  · have hl := hget.out (s.size - 1) (by omega)
    rw [if_neg (by omega)] at hl
    have q0 : ((s[s.size - 1].toNat : Int) == 0) = false := by
      have ht := htop.out.2 (by omega)
      have hu := htop.out.1
      have hd : 1 ≤ x / 128 ^ (s.size - 1) := (Nat.one_le_div_iff (Nat.pos_of_ne_zero (by simp))).2 ht
      have hd2 : x / 128 ^ (s.size - 1) < 128 := by
        rw [Nat.div_lt_iff_lt_mul (Nat.pos_of_ne_zero (by simp)), Nat.mul_comm, ← Nat.pow_succ, show (s.size - 1).succ = s.size from by omega]; exact hu
      exact beq_eq_false_iff_ne.2 (by omega)
    have q1 : ((s.size : Int) == 1) = false := beq_eq_false_iff_ne.2 (by omega)
    have q2 : decide ((0 : Int) < (x : Int) / 2 ^ (7 * (s.size - 1))) = true := by
      have ht := htop.out.2 (by omega)
      have hd : 1 ≤ x / 128 ^ (s.size - 1) := (Nat.one_le_div_iff (Nat.pos_of_ne_zero (by simp))).2 ht
      have e2 : (2 : Int) ^ (7 * (s.size - 1)) = ((128 ^ (s.size - 1) : Nat) : Int) := by rw [Int.pow_mul]; simp
      rw [e2]
      exact decide_eq_true (by omega)
    clear hl
    go_enter Try.func4, Try.ntmps4
    go_wp2_with fail
    refine (HP.out _).mono ?_
    rintro e w1 ⟨rfl, hb⟩
    have HB := Kp.mk hb
    clear HP hb
    go_wp2_with fail
    go_loop [4, 5] (fun va vk => ∃ k acc : Nat, k ≤ s.size ∧ va = .int .u64 acc ∧ vk = .int .i64 k ∧ Kp (acc = x % 128 ^ k)) (fun _ vk => s.size - (intOf vk).toNat)
    case atStart => exact ⟨0, 0, by omega, rfl, rfl, ⟨by simp [Nat.mod_one]⟩⟩
    case round =>
      obtain ⟨k, acc, hk, rfl, rfl, hacc⟩ := hrel
      by_cases hlt : k < s.size
      · have hg := hget.out k hlt
        have hge : (!decide ((128 : Int) ≤ (s[k].toNat : Int)) == decide ((k : Int) < (s.size : Int) - 1)) = false := by
          by_cases hc : k + 1 < s.size
          · rw [if_pos hc] at hg
            rw [decide_eq_true (show (128 : Int) ≤ (s[k].toNat : Int) by omega), decide_eq_true (show (k : Int) < (s.size : Int) - 1 by omega)]; rfl
          · rw [if_neg hc] at hg
            rw [decide_eq_false (show ¬ (128 : Int) ≤ (s[k].toNat : Int) by omega), decide_eq_false (show ¬ (k : Int) < (s.size : Int) - 1 by omega)]; rfl
        have HG := Kp.mk hg
        clear hg
        go_wp2
        · go_round
          case rel =>
            have hb := s[k].toNat_lt
            have hd : s[k].toNat % 128 = x / 128 ^ k % 128 := by rw [HG.out]; split <;> omega
            have hX := HX.out
            have e7 : (2 : Nat) ^ (7 * k) = 128 ^ k := by rw [Nat.pow_mul]
            have hpk : 1 ≤ (128 : Nat) ^ k := Nat.pos_of_ne_zero (by simp)
            have hsum : x % 128 ^ (k + 1) = x % 128 ^ k + x / 128 ^ k % 128 * 128 ^ k := by
              rw [Nat.pow_succ, Nat.mod_mul, Nat.mul_comm (x / 128 ^ k % 128)]
            have hle2 : x % 128 ^ (k + 1) ≤ x := Nat.mod_le _ _
            have hacc' := hacc.out
            have ho := or_add k acc (s[k].toNat % 128) (by rw [e7, hacc']; exact Nat.mod_lt _ (by omega)) (by rw [hd, e7]; omega) (by omega)
            refine ⟨k + 1, x % 128 ^ (k + 1), by omega, ?_, by go_num, ⟨rfl⟩⟩
            rw [show bits .and .u8 ((s[k].toNat : Nat) : Int) 127 = ((s[k].toNat % 128 : Nat) : Int) from (bits_mask .u8 8 (by decide) wraps_u8 7 (by decide) _ (by omega) (by omega)), u64_wrap_id ((s[k].toNat % 128 : Nat) : Int) (by omega) (by omega), ho, hd, e7, hacc', hsum]
          case measure => simp [intOf]; omega
      · obtain rfl : k = s.size := by omega
        have hax : ((acc : Int) == (x : Int)) = true := beq_iff_eq.2 (by rw [hacc.out, Nat.mod_eq_of_lt htop.out.1])
        go_wp2
        go_ret
        exact ⟨rfl, HB.out⟩

end Go.Proofs.Ytpagaagghpopiaa
