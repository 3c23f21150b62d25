/- The walk of the law FnC2Read. -/
import Derived.Test.YtkcpgcaccgahaaaGreatDoorRdHeadA
namespace Go.Proofs.YtkcpgcaccgahaaaGreatDoor
open Go.RowKit

theorem take_le (x : Nat) (r : List UInt8) : (Lib.leBytes 8 x ++ r).take 8 = Lib.leBytes 8 x := List.take_left' (Lib.leBytes_length 8 x)
theorem drop_le (x : Nat) (r : List UInt8) : (Lib.leBytes 8 x ++ r).drop 8 = r := List.drop_left' (Lib.leBytes_length 8 x)
theorem leNat_le (x : Nat) (h : x < 2 ^ 64) : Lib.leNat (Lib.leBytes 8 x) = x := Lib.leNat_leBytes 8 x (by rw [show (256 : Nat) ^ 8 = 2 ^ 64 by decide]; exact h)
theorem leAt_zero (x : Nat) (r : List UInt8) (h : x < 2 ^ 64) : leAt 0 (Lib.leBytes 8 x ++ r) = x := by
  unfold leAt; rw [List.drop_zero, take_le, leNat_le x h]
theorem leAt_next (k x : Nat) (r : List UInt8) : leAt (8 + k) (Lib.leBytes 8 x ++ r) = leAt k r := by
  unfold leAt; rw [← List.drop_drop, drop_le]
theorem leAt_hd (a b c d e : Nat) (r : List UInt8) (ha : a < 2 ^ 64) (hb : b < 2 ^ 64) (hc : c < 2 ^ 64) (hd : d < 2 ^ 64) (he : e < 2 ^ 64) :
    leAt 0 (hdBytes a b c d e ++ r) = a ∧ leAt 8 (hdBytes a b c d e ++ r) = b ∧ leAt 16 (hdBytes a b c d e ++ r) = c ∧ leAt 24 (hdBytes a b c d e ++ r) = d ∧ leAt 32 (hdBytes a b c d e ++ r) = e := by
  have e0 : hdBytes a b c d e ++ r = Lib.leBytes 8 a ++ (Lib.leBytes 8 b ++ (Lib.leBytes 8 c ++ (Lib.leBytes 8 d ++ (Lib.leBytes 8 e ++ r)))) := by
    simp [hdBytes, hp3, hp2, hp1]
  rw [e0]
  refine ⟨leAt_zero _ _ ha, ?_, ?_, ?_, ?_⟩
  · rw [show (8 : Nat) = 8 + 0 from rfl, leAt_next, leAt_zero _ _ hb]
  · rw [show (16 : Nat) = 8 + (8 + 0) from rfl, leAt_next, leAt_next, leAt_zero _ _ hc]
  · rw [show (24 : Nat) = 8 + (8 + (8 + 0)) from rfl, leAt_next, leAt_next, leAt_next, leAt_zero _ _ hd]
  · rw [show (32 : Nat) = 8 + (8 + (8 + (8 + 0))) from rfl, leAt_next, leAt_next, leAt_next, leAt_next, leAt_zero _ _ he]
theorem hdBytes_length (a b c d e : Nat) : (hdBytes a b c d e).length = 40 := by simp [hdBytes, hp3, hp2, hp1, Lib.leBytes_length]

set_option maxHeartbeats 4000000 in
set_option maxRecDepth 100000 in
/-- laws.c2Sound. -/
theorem c2Sound_int (a b c d e : Int) (r : Bool) (w : World) (hr : r = (decide (51 ≤ c) && decide (c < 9223372036854775808) && decide (0 < d) && decide (d < 9223372036854775808) && decide (e < 9223372036854775808))) :
    Calls Tryz.prog 6 #[.agg #[.int .u64 a, .int .u64 b, .int .u64 c, .int .u64 d, .int .u64 e]] w fun e' w' => e' = .returned (.bool r) ∧ Below w.heap.size w w' := by
  by_cases h0 : 51 ≤ c
  · by_cases h1 : c < 9223372036854775808
    · by_cases h2 : 0 < d
      · by_cases h3 : d < 9223372036854775808
        · by_cases h4 : e < 9223372036854775808
          · have q0 : decide (51 ≤ c) = true := decide_eq_true h0
            have q1 : decide (c < 9223372036854775808) = true := decide_eq_true h1
            have q2 : decide (0 < d) = true := decide_eq_true h2
            have q3 : decide (d < 9223372036854775808) = true := decide_eq_true h3
            have q4 : decide (e < 9223372036854775808) = true := decide_eq_true h4
            obtain rfl : r = true := by rw [hr, q0, q1, q2, q3, q4]; simp
            clear hr h0 h1 h2 h3 h4
            go_enter Tryz.func6, Tryz.ntmps6
            go_wp2
            go_ret
            exact ⟨rfl, bel_alloc (Below.refl _ _) _⟩
          · have q0 : decide (51 ≤ c) = true := decide_eq_true h0
            have q1 : decide (c < 9223372036854775808) = true := decide_eq_true h1
            have q2 : decide (0 < d) = true := decide_eq_true h2
            have q3 : decide (d < 9223372036854775808) = true := decide_eq_true h3
            have q4 : decide (e < 9223372036854775808) = false := decide_eq_false h4
            obtain rfl : r = false := by rw [hr, q0, q1, q2, q3, q4]; simp
            clear hr h0 h1 h2 h3 h4
            go_enter Tryz.func6, Tryz.ntmps6
            go_wp2
            go_ret
            exact ⟨rfl, bel_alloc (Below.refl _ _) _⟩
        · have q0 : decide (51 ≤ c) = true := decide_eq_true h0
          have q1 : decide (c < 9223372036854775808) = true := decide_eq_true h1
          have q2 : decide (0 < d) = true := decide_eq_true h2
          have q3 : decide (d < 9223372036854775808) = false := decide_eq_false h3
          obtain rfl : r = false := by rw [hr, q0, q1, q2, q3]; simp
          clear hr h0 h1 h2 h3
          go_enter Tryz.func6, Tryz.ntmps6
          go_wp2
          go_ret
          exact ⟨rfl, bel_alloc (Below.refl _ _) _⟩
      · have q0 : decide (51 ≤ c) = true := decide_eq_true h0
        have q1 : decide (c < 9223372036854775808) = true := decide_eq_true h1
        have q2 : decide (0 < d) = false := decide_eq_false h2
        obtain rfl : r = false := by rw [hr, q0, q1, q2]; simp
        clear hr h0 h1 h2
        go_enter Tryz.func6, Tryz.ntmps6
        go_wp2
        go_ret
        exact ⟨rfl, bel_alloc (Below.refl _ _) _⟩
    · have q0 : decide (51 ≤ c) = true := decide_eq_true h0
      have q1 : decide (c < 9223372036854775808) = false := decide_eq_false h1
      obtain rfl : r = false := by rw [hr, q0, q1]; simp
      clear hr h0 h1
      go_enter Tryz.func6, Tryz.ntmps6
      go_wp2
      go_ret
      exact ⟨rfl, bel_alloc (Below.refl _ _) _⟩
  · have q0 : decide (51 ≤ c) = false := decide_eq_false h0
    obtain rfl : r = false := by rw [hr, q0]; simp
    clear hr h0
    go_enter Tryz.func6, Tryz.ntmps6
    go_wp2
    go_ret
    exact ⟨rfl, bel_alloc (Below.refl _ _) _⟩
theorem c2Sound_calls (a b c d e : Nat) (w : World) :
    Calls Tryz.prog 6 #[.agg #[.int .u64 a, .int .u64 b, .int .u64 c, .int .u64 d, .int .u64 e]] w fun e' w' => e' = .returned (.bool (decide (hdSound c d e))) ∧ Below w.heap.size w w' := by
  refine c2Sound_int a b c d e _ w ?_
  rw [Bool.eq_iff_iff]
  simp only [Bool.and_eq_true, decide_eq_true_eq]
  unfold hdSound
  constructor
  · rintro ⟨h1, h2, h3, h4, h5⟩
    refine ⟨⟨⟨⟨?_, ?_⟩, ?_⟩, ?_⟩, ?_⟩ <;> omega
  · rintro ⟨⟨⟨⟨h1, h2⟩, h3⟩, h4⟩, h5⟩
    refine ⟨?_, ?_, ?_, ?_, ?_⟩ <;> omega


































































































































































end Go.Proofs.YtkcpgcaccgahaaaGreatDoor
