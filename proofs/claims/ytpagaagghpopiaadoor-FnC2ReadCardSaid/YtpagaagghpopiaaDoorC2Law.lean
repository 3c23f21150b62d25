/- The walk of the law FnC2Read. -/
import Derived.Test.YtpagaagghpopiaaDoorC2Read
namespace Go.Proofs.YtpagaagghpopiaaDoor
open Go.RowKit

theorem take_le (x : Nat) (r : List UInt8) : (Lib.leBytes 8 x ++ r).take 8 = Lib.leBytes 8 x := List.take_left' (Lib.leBytes_length 8 x)
theorem drop_le (x : Nat) (r : List UInt8) : (Lib.leBytes 8 x ++ r).drop 8 = r := List.drop_left' (Lib.leBytes_length 8 x)
theorem leNat_le (x : Nat) (h : x < 2 ^ 64) : Lib.leNat (Lib.leBytes 8 x) = x := Lib.leNat_leBytes 8 x (by rw [show (256 : Nat) ^ 8 = 2 ^ 64 by decide]; exact h)
theorem leAt_zero (x : Nat) (r : List UInt8) (h : x < 2 ^ 64) : leAt 0 (Lib.leBytes 8 x ++ r) = x := by
  unfold leAt; rw [List.drop_zero, take_le, leNat_le x h]
theorem leAt_next (k x : Nat) (r : List UInt8) : leAt (8 + k) (Lib.leBytes 8 x ++ r) = leAt k r := by
  unfold leAt; rw [← List.drop_drop, drop_le]
theorem leAt_hd (a b c d e : Nat) (r : List UInt8) (ha : a < 2 ^ 64) (hb : b < 2 ^ 64) (hc : c < 2 ^ 64) (hd : d < 2 ^ 64) (he : e < 2 ^ 64) :
    leAt 0 (hdBytes a b c d e ++ r) = a ∧ leAt 8 (hdBytes a b c d e ++ r) = b ∧ leAt 16 (hdBytes a b c d e ++ r) = c ∧ leAt 24 (hdBytes a b c d e ++ r) = d ∧ leAt 32 (hdBytes a b c d e ++ r) = e := by
  have e0 : hdBytes a b c d e ++ r = Lib.leBytes 8 a ++ (Lib.leBytes 8 b ++ (Lib.leBytes 8 c ++ (Lib.leBytes 8 d ++ (Lib.leBytes 8 e ++ r)))) := by
    simp [hdBytes, hp3, hp2, hp1]
  rw [e0]
  refine ⟨leAt_zero _ _ ha, ?_, ?_, ?_, ?_⟩
  · rw [show (8 : Nat) = 8 + 0 from rfl, leAt_next, leAt_zero _ _ hb]
  · rw [show (16 : Nat) = 8 + (8 + 0) from rfl, leAt_next, leAt_next, leAt_zero _ _ hc]
  · rw [show (24 : Nat) = 8 + (8 + (8 + 0)) from rfl, leAt_next, leAt_next, leAt_next, leAt_zero _ _ hd]
  · rw [show (32 : Nat) = 8 + (8 + (8 + (8 + 0))) from rfl, leAt_next, leAt_next, leAt_next, leAt_next, leAt_zero _ _ he]
theorem hdBytes_length (a b c d e : Nat) : (hdBytes a b c d e).length = 40 := by simp [hdBytes, hp3, hp2, hp1, Lib.leBytes_length]

set_option maxHeartbeats 4000000 in
set_option maxRecDepth 100000 in
/-- laws.c2Sound. -/
theorem c2Sound_int (a b c d e : Int) (r : Bool) (w : World) (hr : r = (decide (51 ≤ c) && decide (c < 9223372036854775808) && decide (0 < d) && decide (d < 9223372036854775808) && decide (e < 9223372036854775808))) :
    Calls Tryd.prog 12 #[.agg #[.int .u64 a, .int .u64 b, .int .u64 c, .int .u64 d, .int .u64 e]] w fun e' w' => e' = .returned (.bool r) ∧ Below w.heap.size w w' := by
  by_cases h0 : 51 ≤ c
  · by_cases h1 : c < 9223372036854775808
    · by_cases h2 : 0 < d
      · by_cases h3 : d < 9223372036854775808
        · by_cases h4 : e < 9223372036854775808
          · have q0 : decide (51 ≤ c) = true := decide_eq_true h0
            have q1 : decide (c < 9223372036854775808) = true := decide_eq_true h1
            have q2 : decide (0 < d) = true := decide_eq_true h2
            have q3 : decide (d < 9223372036854775808) = true := decide_eq_true h3
            have q4 : decide (e < 9223372036854775808) = true := decide_eq_true h4
            obtain rfl : r = true := by rw [hr, q0, q1, q2, q3, q4]; simp
            clear hr h0 h1 h2 h3 h4
            go_enter Tryd.func12, Tryd.ntmps12
            go_wp2
            go_ret
            exact ⟨rfl, bel_alloc (Below.refl _ _) _⟩
          · have q0 : decide (51 ≤ c) = true := decide_eq_true h0
            have q1 : decide (c < 9223372036854775808) = true := decide_eq_true h1
            have q2 : decide (0 < d) = true := decide_eq_true h2
            have q3 : decide (d < 9223372036854775808) = true := decide_eq_true h3
            have q4 : decide (e < 9223372036854775808) = false := decide_eq_false h4
            obtain rfl : r = false := by rw [hr, q0, q1, q2, q3, q4]; simp
            clear hr h0 h1 h2 h3 h4
            go_enter Tryd.func12, Tryd.ntmps12
            go_wp2
            go_ret
            exact ⟨rfl, bel_alloc (Below.refl _ _) _⟩
        · have q0 : decide (51 ≤ c) = true := decide_eq_true h0
          have q1 : decide (c < 9223372036854775808) = true := decide_eq_true h1
          have q2 : decide (0 < d) = true := decide_eq_true h2
          have q3 : decide (d < 9223372036854775808) = false := decide_eq_false h3
          obtain rfl : r = false := by rw [hr, q0, q1, q2, q3]; simp
          clear hr h0 h1 h2 h3
          go_enter Tryd.func12, Tryd.ntmps12
          go_wp2
          go_ret
          exact ⟨rfl, bel_alloc (Below.refl _ _) _⟩
      · have q0 : decide (51 ≤ c) = true := decide_eq_true h0
        have q1 : decide (c < 9223372036854775808) = true := decide_eq_true h1
        have q2 : decide (0 < d) = false := decide_eq_false h2
        obtain rfl : r = false := by rw [hr, q0, q1, q2]; simp
        clear hr h0 h1 h2
        go_enter Tryd.func12, Tryd.ntmps12
        go_wp2
        go_ret
        exact ⟨rfl, bel_alloc (Below.refl _ _) _⟩
    · have q0 : decide (51 ≤ c) = true := decide_eq_true h0
      have q1 : decide (c < 9223372036854775808) = false := decide_eq_false h1
      obtain rfl : r = false := by rw [hr, q0, q1]; simp
      clear hr h0 h1
      go_enter Tryd.func12, Tryd.ntmps12
      go_wp2
      go_ret
      exact ⟨rfl, bel_alloc (Below.refl _ _) _⟩
  · have q0 : decide (51 ≤ c) = false := decide_eq_false h0
    obtain rfl : r = false := by rw [hr, q0]; simp
    clear hr h0
    go_enter Tryd.func12, Tryd.ntmps12
    go_wp2
    go_ret
    exact ⟨rfl, bel_alloc (Below.refl _ _) _⟩
theorem c2Sound_calls (a b c d e : Nat) (w : World) :
    Calls Tryd.prog 12 #[.agg #[.int .u64 a, .int .u64 b, .int .u64 c, .int .u64 d, .int .u64 e]] w fun e' w' => e' = .returned (.bool (decide (hdSound c d e))) ∧ Below w.heap.size w w' := by
  refine c2Sound_int a b c d e _ w ?_
  rw [Bool.eq_iff_iff]
  simp only [Bool.and_eq_true, decide_eq_true_eq]
  unfold hdSound
  constructor
  · rintro ⟨h1, h2, h3, h4, h5⟩
    refine ⟨⟨⟨⟨?_, ?_⟩, ?_⟩, ?_⟩, ?_⟩ <;> omega
  · rintro ⟨⟨⟨⟨h1, h2⟩, h3⟩, h4⟩, h5⟩
    refine ⟨?_, ?_, ?_, ?_, ?_⟩ <;> omega

set_option linter.constructorNameAsVariable false in
set_option maxHeartbeats 8000000 in
set_option maxRecDepth 100000 in
/-- laws.FnC2Read. -/
theorem c2Read_walk (a b c d e : Nat) (s : ByteArray) (w : World) (ha : a < 2 ^ 64) (hb : b < 2 ^ 64) (hc : c < 2 ^ 64) (hd : d < 2 ^ 64) (he : e < 2 ^ 64) (hs : s.size ≤ 9223372036854775807) :
    Calls Tryd.prog 3 #[.agg #[.int .u64 a, .int .u64 b, .int .u64 c, .int .u64 d, .int .u64 e], .string s] w fun e' w' => e' = .returned (.bool true) ∧ Below w.heap.size w w' := by
  by_cases h1 : s.size ≤ 2147483647
  · by_cases h3 : s.size ≤ 4096
    · have HH := Kp.mk (fun w => headBytes_calls a b c d e w ha hb hc hd he)
      have hsz : (strB (hdBytes a b c d e)).size = 40 := by rw [strB_size, hdBytes_length]
      have hadd : strB (hdBytes a b c d e) ++ s = strB (hdBytes a b c d e ++ bl s) := by rw [← strB_append, strB_bl]
      have HA := Kp.mk hadd
      have hle : (strB (hdBytes a b c d e)).size + s.size ≤ 9223372036854775807 := by omega
      have HR1 := Kp.mk (fun w => c2Read_calls (strB (hdBytes a b c d e) ++ s) w (by rw [ByteArray.size_append]; omega) (by rw [ByteArray.size_append]; omega))
      have HR2 : Kp (∀ w, Calls Tryd.prog 9 #[.string (strB (hdBytes 0 0 51 1 52))] w fun e w' => e = .returned (.tuple #[.agg #[.int .u64 0, .int .u64 0, .int .u64 51, .int .u64 1, .int .u64 52], .int .i64 40, .bool true]) ∧ Below w.heap.size w w') := ⟨fun w => by
        have h := c2Read_calls (strB (hdBytes 0 0 51 1 52)) w (by rw [strB_size, hdBytes_length]; omega) (by rw [strB_size, hdBytes_length]; omega)
        obtain ⟨e0, e1, e2, e3, e4⟩ := leAt_hd 0 0 51 1 52 [] (by decide) (by decide) (by decide) (by decide) (by decide)
        rw [List.append_nil] at e0 e1 e2 e3 e4
        rw [bl_strB] at h
        unfold C2End at h
        rw [e0, e1, e2, e3, e4] at h
        simp only [if_pos (show hdSound 51 1 52 from ⟨by omega, by omega, by omega, by omega, by omega⟩)] at h
        exact h⟩
      have HN : Kp (∀ w, Calls Tryd.prog 11 #[.int .u64 1] w fun e w' => e = .returned (.agg #[.int .u64 0, .int .u64 0, .int .u64 51, .int .u64 1, .int .u64 52]) ∧ Below w.heap.size w w') := ⟨fun w => newHead_calls 1 w (by omega) (by omega)⟩
      have HB : Kp (∀ w, Calls Tryd.prog 10 #[.agg #[.int .u64 0, .int .u64 0, .int .u64 51, .int .u64 1, .int .u64 52]] w fun e w' => e = .returned (.string (strB (hdBytes 0 0 51 1 52))) ∧ Below w.heap.size w w') := ⟨fun w => headBytes_calls 0 0 51 1 52 w (by decide) (by decide) (by decide) (by decide) (by decide)⟩
      have HS := Kp.mk (fun w => c2Sound_calls a b c d e w)
      have HL := Kp.mk (leAt_hd a b c d e (bl s) ha hb hc hd he)
      clear ha hb hc hd he hs hadd hsz
      go_enter Tryd.func3, Tryd.ntmps3
      go_wp2_with fail
      refine (HH.out _).mono ?_
      rintro e1 w1 ⟨rfl, hb1⟩
      have HB1 := Kp.mk hb1
      have HG1 := Kp.mk (blk_new hb1)
      clear hb1
      go_wp2_with fail
      refine (HR1.out _).mono ?_
      rintro e1 w2 ⟨hu, hb2⟩
      have HB2 := Kp.mk (bel_then HB1.out hb2)
      have HG2 := Kp.mk (blk_keep HG1.out hb2)
      rw [HA.out, bl_strB] at hu
      obtain ⟨l0, l1, l2, l3, l4⟩ := HL.out
      unfold C2End at hu
      rw [l0, l1, l2, l3, l4] at hu
      clear hb2 HB1 HG1 l0 l1 l2 l3 l4 HL HR1 HA HH hle
      by_cases hsd : hdSound c d e
      · rw [if_pos hsd] at hu
        subst hu
        have HSD := Kp.mk hsd
        clear hsd
        go_wp2_with fail
        refine (HN.out _).mono ?_
        rintro e1 w3 ⟨rfl, hb3⟩
        have HB3 := Kp.mk (bel_then HB2.out (bel_new hb3))
        have HG3 := Kp.mk (blk_keep HG2.out (bel_new hb3))
        have HK3 := Kp.mk (blk_new hb3)
        clear hb3 HB2 HG2
        go_wp2_with fail
        refine (HB.out _).mono ?_
        rintro e1 w4 ⟨rfl, hb4⟩
        have HB4 := Kp.mk (bel_then HB3.out hb4)
        have HG4 := Kp.mk (blk_keep HG3.out hb4)
        have HK4 := Kp.mk (blk_keep HK3.out hb4)
        clear hb4 HB3 HG3 HK3
        go_wp2_with fail
        refine (HR2.out _).mono ?_
        rintro e1 w5 ⟨rfl, hb5⟩
        have HB5 := Kp.mk (bel_then HB4.out hb5)
        have hg := blk_keep HG4.out hb5
        have hk := blk_keep HK4.out hb5
        clear hb5 HB4 HG4 HK4
        have c0 := fun o => blk_cell (blk_keep hg (bel_alloc (Below.refl _ _) o)) 0
        have c1 := fun o => blk_cell (blk_keep hg (bel_alloc (Below.refl _ _) o)) 1
        have c2 := fun o => blk_cell (blk_keep hg (bel_alloc (Below.refl _ _) o)) 2
        have c3 := fun o => blk_cell (blk_keep hg (bel_alloc (Below.refl _ _) o)) 3
        have c4 := fun o => blk_cell (blk_keep hg (bel_alloc (Below.refl _ _) o)) 4
        go_wp2_with fail
        refine (HS.out _).mono ?_
        rintro e1 w6 ⟨rfl, hb6⟩
        rw [decide_eq_true HSD.out]
        have HB6 := Kp.mk (bel_then HB5.out (bel_new hb6))
        have hg6 := blk_keep hg (bel_new hb6)
        have hk6 := blk_keep hk (bel_new hb6)
        clear hb6 HB5 c0 c1 c2 c3 c4 hg hk
        have c0 := blk_cell hg6 0
        have c1 := blk_cell hg6 1
        have c2 := blk_cell hg6 2
        have c3 := blk_cell hg6 3
        have c4 := blk_cell hg6 4
        have d0 := blk_cell hk6 0
        have d1 := blk_cell hk6 1
        have d2 := blk_cell hk6 2
        have d3 := blk_cell hk6 3
        have d4 := blk_cell hk6 4
        clear hg6 hk6
        go_wp2_with fail
        go_ret
        exact ⟨rfl, bel_new HB6.out⟩
      · rw [if_neg hsd] at hu
        subst hu
        have HSD := Kp.mk hsd
        clear hsd
        go_wp2_with fail
        refine (HN.out _).mono ?_
        rintro e1 w3 ⟨rfl, hb3⟩
        have HB3 := Kp.mk (bel_then HB2.out (bel_new hb3))
        have HG3 := Kp.mk (blk_keep HG2.out (bel_new hb3))
        have HK3 := Kp.mk (blk_new hb3)
        clear hb3 HB2 HG2
        go_wp2_with fail
        refine (HB.out _).mono ?_
        rintro e1 w4 ⟨rfl, hb4⟩
        have HB4 := Kp.mk (bel_then HB3.out hb4)
        have HG4 := Kp.mk (blk_keep HG3.out hb4)
        have HK4 := Kp.mk (blk_keep HK3.out hb4)
        clear hb4 HB3 HG3 HK3
        go_wp2_with fail
        refine (HR2.out _).mono ?_
        rintro e1 w5 ⟨rfl, hb5⟩
        have HB5 := Kp.mk (bel_then HB4.out hb5)
        have hg := blk_keep HG4.out hb5
        have hk := blk_keep HK4.out hb5
        clear hb5 HB4 HG4 HK4
        have c0 := fun o => blk_cell (blk_keep hg (bel_alloc (Below.refl _ _) o)) 0
        have c1 := fun o => blk_cell (blk_keep hg (bel_alloc (Below.refl _ _) o)) 1
        have c2 := fun o => blk_cell (blk_keep hg (bel_alloc (Below.refl _ _) o)) 2
        have c3 := fun o => blk_cell (blk_keep hg (bel_alloc (Below.refl _ _) o)) 3
        have c4 := fun o => blk_cell (blk_keep hg (bel_alloc (Below.refl _ _) o)) 4
        go_wp2_with fail
        refine (HS.out _).mono ?_
        rintro e1 w6 ⟨rfl, hb6⟩
        rw [decide_eq_false HSD.out]
        have HB6 := Kp.mk (bel_then HB5.out (bel_new hb6))
        have hg6 := blk_keep hg (bel_new hb6)
        have hk6 := blk_keep hk (bel_new hb6)
        clear hb6 HB5 c0 c1 c2 c3 c4 hg hk
        have c0 := blk_cell hg6 0
        have c1 := blk_cell hg6 1
        have c2 := blk_cell hg6 2
        have c3 := blk_cell hg6 3
        have c4 := blk_cell hg6 4
        have d0 := blk_cell hk6 0
        have d1 := blk_cell hk6 1
        have d2 := blk_cell hk6 2
        have d3 := blk_cell hk6 3
        have d4 := blk_cell hk6 4
        clear hg6 hk6
        go_wp2_with fail
        go_ret
        exact ⟨rfl, bel_new HB6.out⟩
    · clear ha hb hc hd he
      go_enter Tryd.func3, Tryd.ntmps3
      go_wp2
      go_ret
      exact ⟨rfl, bel_alloc (Below.refl _ _) _⟩
  · clear ha hb hc hd he
    go_enter Tryd.func3, Tryd.ntmps3
    go_wp2
    go_ret
    exact ⟨rfl, bel_alloc (Below.refl _ _) _⟩

end Go.Proofs.YtpagaagghpopiaaDoor
