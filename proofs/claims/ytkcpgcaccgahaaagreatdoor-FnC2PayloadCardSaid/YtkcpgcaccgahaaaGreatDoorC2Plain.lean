/- The walk of the law FnC2Payload. -/
import Derived.Test.YtkcpgcaccgahaaaGreatDoorDataA
import Derived.Test.YtkcpgcaccgahaaaGreatDoorLaidA
import Derived.Test.YtkcpgcaccgahaaaGreatDoorC2Law
namespace Go.Proofs.YtkcpgcaccgahaaaGreatDoor
open Go.RowKit

theorem leAt_prag (k : Nat) (r : List UInt8) : leAt (11 + k) (pragB ++ r) = leAt k r := by
  unfold leAt
  rw [← List.drop_drop, List.drop_left' (show pragB.length = 11 from rfl)]
theorem head_bl' (s : ByteArray) (n : Nat) : bl (s.extract 0 n) = (bl s).take n := by
  unfold bl
  rw [ByteArray.data_extract, Array.toList_extract]
  simp
/-- The pragma as the program writes it. -/
abbrev pragS : ByteArray := { data := #[10, 161, 103, 118, 101, 114, 115, 105, 111, 110, 2] }
theorem prag_str : pragS = strB pragB := rfl

set_option linter.constructorNameAsVariable false in
set_option maxHeartbeats 8000000 in
set_option maxRecDepth 100000 in
/-- laws.FnC2Payload. -/
theorem c2Payload_walk (a b c d e : Nat) (t : ByteArray) (w : World) (ha : a < 2 ^ 64) (hb : b < 2 ^ 64) (hc : c < 2 ^ 64) (hd : d < 2 ^ 64) (he : e < 2 ^ 64) (ht : t.size ≤ 9223372036854775807) (hpl : PlErrs w) :
    Calls Tryz.prog 3 #[.agg #[.int .u64 a, .int .u64 b, .int .u64 c, .int .u64 d, .int .u64 e], .string t] w fun e' w' => e' = .returned (.bool true) ∧ Below w.heap.size w w' := by
  by_cases h1 : t.size ≤ 2147483647
  · by_cases h3 : t.size ≤ 4096
    · have HH := Kp.mk (fun w => headBytes_calls a b c d e w ha hb hc hd he)
      have HS := Kp.mk (fun w => c2Sound_calls a b c d e w)
      have HLT := Kp.mk (And.intro ha (And.intro hb (And.intro hc (And.intro hd he))))
      clear ha hb hc hd he ht
      obtain ⟨hs, hhs⟩ : ∃ hs, hs = strB (hdBytes a b c d e) := ⟨_, rfl⟩
      have hsz : hs.size = 40 := by rw [hhs, strB_size, hdBytes_length]
      rw [← hhs] at HH
      have HHS := Kp.mk hhs
      clear hhs
      have HPL := Kp.mk hpl
      clear hpl
      by_cases hsd : hdSound c d e
      · have HSD := Kp.mk hsd
        go_enter Tryz.func3, Tryz.ntmps3
        go_wp2_with fail
        refine (HS.out _).mono ?_
        rintro e1 w1 ⟨rfl, hb1⟩
        rw [decide_eq_true hsd]
        have HB1 := Kp.mk (bel_new hb1)
        have hg1 := blk_new hb1
        have HG1 := Kp.mk hg1
        have c0 := blk_cell hg1 0
        have c1 := blk_cell hg1 1
        have c2 := blk_cell hg1 2
        have c3 := blk_cell hg1 3
        have c4 := blk_cell hg1 4
        clear hb1 hg1 hsd
        by_cases hco : 51 + t.size < c
        · go_wp2_with fail
          go_ret
          exact ⟨rfl, HB1.out⟩
        · go_wp2_with fail
          refine (HH.out _).mono ?_
          rintro e1 w2 ⟨rfl, hb2⟩
          have hg2 := blk_keep HG1.out hb2
          have HB2 := Kp.mk (bel_then HB1.out hb2)
          clear c0 c1 c2 c3 c4 HG1 HB1 HS HH hb2
          have c2 := blk_cell hg2 2
          have c3 := blk_cell hg2 3
          clear hg2
          have hS : pragS ++ hs ++ t = strB (pragB ++ (hdBytes a b c d e ++ bl t)) := by rw [HHS.out, prag_str, strB_append, ← strB_bl t, strB_append, bl_strB, List.append_assoc]
          have hSs : (pragS ++ hs ++ t).size = 51 + t.size := by rw [ByteArray.size_append, ByteArray.size_append, hsz]; rfl
          have hSb : bl (pragS ++ hs ++ t) = pragB ++ (hdBytes a b c d e ++ bl t) := by rw [hS, bl_strB]
          have HRD : Kp (∀ W, Below w.heap.size w W → Calls Tryz.prog 8 #[.string (pragS ++ hs ++ t), .agg #[.bool false, .bool false, .bool false, .bool false, .bool false, .bool false, .int .u64 0, .int .u64 0, .int .u64 0, .int .u64 0, .int .u64 0, .int .u64 0]] W fun e' w' => e' = .returned (.tuple #[.string (if d < 51 + t.size - c then ((pragS ++ hs ++ t).extract c (51 + t.size)).extract 0 d else (pragS ++ hs ++ t).extract c (51 + t.size)), .bool true]) ∧ Below W.heap.size W w') := ⟨fun W hb => by
            obtain ⟨⟨ve, vu, vo, vn, p1⟩, p2, v, p3, p4⟩ := HPL.out.below hb
            obtain ⟨l0, l1, l2, l3, l4⟩ := leAt_hd a b c d e (bl t) HLT.out.1 HLT.out.2.1 HLT.out.2.2.1 HLT.out.2.2.2.1 HLT.out.2.2.2.2
            have k2 : leAt 27 (bl (pragS ++ hs ++ t)) = c := by rw [hSb, show (27 : Nat) = 11 + 16 from rfl, leAt_prag, l2]
            have k3 : leAt 35 (bl (pragS ++ hs ++ t)) = d := by rw [hSb, show (35 : Nat) = 11 + 24 from rfl, leAt_prag, l3]
            have k4 : leAt 43 (bl (pragS ++ hs ++ t)) = e := by rw [hSb, show (43 : Nat) = 11 + 32 from rfl, leAt_prag, l4]
            have h := rdData_calls ⟨false, false, false, false, false, false, 0, 0, 0, 0, 0, 0⟩ rfl rfl rfl rfl (pragS ++ hs ++ t) W ve vu vo vn p1 p2 ⟨v, p3, p4⟩ (hdBytes a b c d e ++ bl t) hSb (by rw [List.length_append, hdBytes_length]; omega) (by rw [hSs]; omega) (by rw [k2, k3, k4]; exact HSD.out)
            rw [k2, k3] at h
            have e1 : (pragS ++ hs ++ t).extract c (51 + t.size) = strB ((bl (pragS ++ hs ++ t)).drop c) := by rw [← hSs, ← cut_bl, strB_bl]
            have e2 : (if d < 51 + t.size - c then ((pragS ++ hs ++ t).extract c (51 + t.size)).extract 0 d else (pragS ++ hs ++ t).extract c (51 + t.size)) = strB (((bl (pragS ++ hs ++ t)).drop c).take d) := by
              split
              · rw [e1, ← strB_bl ((strB _).extract 0 d), head_bl', bl_strB]
              · rw [e1, List.take_of_length_le (by rw [List.length_drop, bl_length, hSs]; omega)]
            rw [e2]
            exact h⟩
          have HB2' := HB2
          clear hS hSs hSb HHS HSD HPL HLT
          by_cases hdd : d < 51 + t.size - c
          · simp only [if_pos hdd] at HRD
            go_wp2_with fail
            refine (HRD.out _ HB2.out).mono ?_
            rintro e1 w3 ⟨rfl, hb3⟩
            have HB3 := Kp.mk (bel_then HB2.out hb3)
            clear hb3 HRD c2 c3
            go_wp2_with fail
            go_ret
            exact ⟨rfl, HB3.out⟩
          · simp only [if_neg hdd] at HRD
            go_wp2_with fail
            refine (HRD.out _ HB2.out).mono ?_
            rintro e1 w3 ⟨rfl, hb3⟩
            have HB3 := Kp.mk (bel_then HB2.out hb3)
            clear hb3 HRD c2 c3
            go_wp2_with fail
            go_ret
            exact ⟨rfl, HB3.out⟩
      · go_enter Tryz.func3, Tryz.ntmps3
        go_wp2_with fail
        refine (HS.out _).mono ?_
        rintro e1 w1 ⟨rfl, hb1⟩
        rw [decide_eq_false hsd]
        have HB1 := Kp.mk (bel_new hb1)
        clear hb1
        go_wp2_with fail
        go_ret
        exact ⟨rfl, HB1.out⟩
    · clear ha hb hc hd he
      go_enter Tryz.func3, Tryz.ntmps3
      go_wp2
      go_ret
      exact ⟨rfl, bel_alloc (Below.refl _ _) _⟩
  · clear ha hb hc hd he
    go_enter Tryz.func3, Tryz.ntmps3
    go_wp2
    go_ret
    exact ⟨rfl, bel_alloc (Below.refl _ _) _⟩

end Go.Proofs.YtkcpgcaccgahaaaGreatDoor
