/- The walk of laws.FnIxOneEntry. Printed by gen-ixlaw.py. -/
import Derived.Test.YtnhnkfdhkifahaaGreatDoorIxNum
import Derived.Test.YtnhnkfdhkifahaaGreatDoorEqCid
import Derived.Test.YtnhnkfdhkifahaaGreatDoorGrowA
namespace Go.Proofs.YtnhnkfdhkifahaaGreatDoor
open Go.RowKit

theorem ixfits8_calls (v codec code off : Nat) (s : ByteArray) (w : World) :
    Calls Tryz.prog 4 #[.agg #[.int .u64 v, .int .u64 codec, .int .u64 code, .string s, .int .u64 off]] w fun e w' => e = .returned (.bool (decide (s.size ≤ 2147483647))) ∧ Below w.heap.size w w' := by
  have HF := Kp.mk (fun o => fits1_calls v codec code s (w.alloc o))
  go_enter Tryz.func4, Tryz.ntmps4
  go_wp2_with fail
  refine (HF.out _).mono ?_
  rintro e w1 ⟨rfl, hb⟩
  have HB := Kp.mk (bel_new hb)
  clear hb HF
  by_cases h : s.size ≤ 2147483647
  · rw [decide_eq_true h]
    have HH := Kp.mk h
    clear h
    go_wp2_with fail
    go_ret
    exact ⟨by rw [decide_eq_true HH.out]; rfl, HB.out⟩
  · rw [decide_eq_false h]
    have HH := Kp.mk h
    clear h
    go_wp2_with fail
    go_ret
    exact ⟨by rw [decide_eq_false HH.out]; rfl, HB.out⟩
theorem cat_strB (a b : List UInt8) : strB a ++ strB b = strB (a ++ b) := by
  apply ByteArray.ext; simp [strB, ByteArray.data_append]
theorem cat_size (a b : ByteArray) : (a ++ b).size = a.size + b.size := ByteArray.size_append

set_option maxRecDepth 100000 in
theorem ixBA_calls (gE oE cE v codec code off : Nat) (s : ByteArray) (w : World) (he0 : w.cell? ⟨gE, oE, none⟩ = some (.int .u64 v)) (he1 : w.cell? ⟨gE, oE + 1, none⟩ = some (.int .u64 codec)) (he2 : w.cell? ⟨gE, oE + 2, none⟩ = some (.int .u64 code)) (he3 : w.cell? ⟨gE, oE + 3, none⟩ = some (.string s)) (he4 : w.cell? ⟨gE, oE + 4, none⟩ = some (.int .u64 off)) (h : Tidy v codec code s) (hs : s.size ≤ 1000) (hoff : off < 2 ^ 64) (he : MhErrs w) :
    Calls Tryz.prog 7 #[.slice (some ⟨gE, oE, none⟩) 1 cE, .int .u64 1024] w fun e w' => e = .returned (.tuple #[.string (strB ([128, 8] ++ (Lib.leBytes 4 1 ++ (Lib.leBytes 4 (s.size + 8) ++ Lib.leBytes 8 (s.size + 8) ++ (bl s ++ Lib.leBytes 8 off))))), .bool true]) ∧ Below w.heap.size w w' := by
  have HI := Kp.mk (ixBytesA_calls gE oE cE v codec code off s w he0 he1 he2 he3 he4 h hs hoff he)
  clear he0 he1 he2 he3 he4 h hs hoff he
  generalize strB ([128, 8] ++ (Lib.leBytes 4 1 ++ (Lib.leBytes 4 (s.size + 8) ++ Lib.leBytes 8 (s.size + 8) ++ (bl s ++ Lib.leBytes 8 off)))) = R at HI ⊢
  go_enter Tryz.func7, Tryz.ntmps7
  go_wp2_with fail
  refine HI.out.mono ?_
  rintro e w1 ⟨rfl, hb⟩
  have HB := Kp.mk hb
  clear hb HI
  go_wp2_with fail
  refine bodyPost_ret (results_tmp2 rfl _ _ _) rfl ?_
  exact ⟨rfl, HB.out⟩

set_option maxRecDepth 100000 in
theorem ixBB_calls (gE oE cE v codec code off : Nat) (s : ByteArray) (w : World) (he0 : w.cell? ⟨gE, oE, none⟩ = some (.int .u64 v)) (he1 : w.cell? ⟨gE, oE + 1, none⟩ = some (.int .u64 codec)) (he2 : w.cell? ⟨gE, oE + 2, none⟩ = some (.int .u64 code)) (he3 : w.cell? ⟨gE, oE + 3, none⟩ = some (.string s)) (he4 : w.cell? ⟨gE, oE + 4, none⟩ = some (.int .u64 off)) (h : Tidy v codec code s) (hs : s.size ≤ 1000) (hoff : off < 2 ^ 64) (he : MhErrs w) :
    Calls Tryz.prog 7 #[.slice (some ⟨gE, oE, none⟩) 1 cE, .int .u64 1025] w fun e w' => e = .returned (.tuple #[.string (strB ([129, 8] ++ (Lib.leBytes 4 1 ++ (Lib.leBytes 8 code ++ Lib.leBytes 4 1 ++ (Lib.leBytes 4 (s.size + 8) ++ Lib.leBytes 8 (s.size + 8) ++ (bl s ++ Lib.leBytes 8 off)))))), .bool true]) ∧ Below w.heap.size w w' := by
  have HI := Kp.mk (ixBytesB_calls gE oE cE v codec code off s w he0 he1 he2 he3 he4 h hs hoff he)
  clear he0 he1 he2 he3 he4 h hs hoff he
  generalize strB ([129, 8] ++ (Lib.leBytes 4 1 ++ (Lib.leBytes 8 code ++ Lib.leBytes 4 1 ++ (Lib.leBytes 4 (s.size + 8) ++ Lib.leBytes 8 (s.size + 8) ++ (bl s ++ Lib.leBytes 8 off))))) = R at HI ⊢
  go_enter Tryz.func7, Tryz.ntmps7
  go_wp2_with fail
  refine HI.out.mono ?_
  rintro e w1 ⟨rfl, hb⟩
  have HB := Kp.mk hb
  clear hb HI
  go_wp2_with fail
  refine bodyPost_ret (results_tmp2 rfl _ _ _) rfl ?_
  exact ⟨rfl, HB.out⟩

/-- What the rows' line's operations leave. -/
def ioR (eb N off : Nat) (s L1 L2 L3 L4 A1 A2 A3 A4 : ByteArray) (j : Nat) (v : Value) (_ : World) : Prop :=
  match j with
  | 0 => v = .string L1
  | 1 => v = .int .u64 N
  | 2 => v = .string L2
  | 3 => v = .string A1
  | 4 => v = .int .u64 N
  | 5 => v = .string L3
  | 6 => v = .string A2
  | 7 => v = .pointer (some ⟨eb, 0, none⟩)
  | 8 => v = .pointer (some ⟨eb, 3, none⟩)
  | 9 => v = .string s
  | 10 => v = .string A3
  | 11 => v = .pointer (some ⟨eb, 4, none⟩)
  | 12 => v = .int .u64 off
  | 13 => v = .string L4
  | 14 => v = .string A4
  | _ => v = .string A4
/-- And the last line's. -/
def ieR2 (eb code : Nat) (L1 L5 A4 B1 B2 B3 B4 : ByteArray) (j : Nat) (v : Value) (_ : World) : Prop :=
  match j with
  | 5 => v = .string B1
  | 6 => v = .string A4
  | 7 => v = .string B1
  | 11 => v = .string B4
  | 12 => v = .string L1
  | 13 => v = .string B2
  | 14 => v = .pointer (some ⟨eb, 0, none⟩)
  | 15 => v = .pointer (some ⟨eb, 2, none⟩)
  | 16 => v = .int .u64 code
  | 17 => v = .string L5
  | 18 => v = .string B3
  | 19 => v = .string A4
  | 20 => v = .string B4
  | _ => v = .bool true

set_option maxHeartbeats 16000000 in
set_option maxRecDepth 100000 in
/-- laws.FnIxOneEntry. -/
theorem ixOne_walk (v codec code off : Nat) (s : ByteArray) (w : World) (hcode : code < 2 ^ 64) (hoff : off < 2 ^ 64) (he : MhErrs w) :
    Calls Tryz.prog 3 #[.agg #[.int .u64 v, .int .u64 codec, .int .u64 code, .string s, .int .u64 off]] w fun e w' => e = .returned (.bool true) ∧ Below w.heap.size w w' := by
  have HF := Kp.mk (fun w => ixfits8_calls v codec code off s w)
  have HT := Kp.mk (fun w => tidy_calls v codec code s w)
  have HX := Kp.mk (And.intro hcode (And.intro hoff he))
  have HB0 := Kp.mk (fun o => bel_alloc (Below.refl w.heap.size w) o)
  have HN0 := Kp.mk (fun o => blk_new (w := w) (o := o) (Below.refl _ _))
  clear hcode hoff he
  go_enter Tryz.func3, Tryz.ntmps3
  go_wp2_with fail
  have HB1 := Kp.mk (HB0.out (.cells #[.int .u64 v, .int .u64 codec, .int .u64 code, .string s, .int .u64 off] 26))
  have HN1 := Kp.mk (HN0.out (.cells #[.int .u64 v, .int .u64 codec, .int .u64 code, .string s, .int .u64 off] 26))
  obtain ⟨eb, heb⟩ : ∃ q, q = w.heap.size := ⟨_, rfl⟩
  rw [← heb] at HN1 ⊢
  clear heb HB0 HN0
  generalize w.alloc (.cells #[.int .u64 v, .int .u64 codec, .int .u64 code, .string s, .int .u64 off] 26) = u1 at *
  refine (HF.out _).mono ?_
  rintro e u2 ⟨rfl, hb⟩
  have HB2 := Kp.mk (bel_then HB1.out hb)
  have HN2 := Kp.mk (blk_keep HN1.out hb)
  clear hb HF HB1 HN1
  by_cases h1 : s.size ≤ 2147483647
  case neg =>
    rw [decide_eq_false h1]
    clear h1
    go_wp2_with fail
    go_ret
    exact ⟨rfl, HB2.out⟩
  rw [decide_eq_true h1]
  clear h1
  have c0 := blk_cell HN2.out 0
  have c1 := blk_cell HN2.out 1
  have c2 := blk_cell HN2.out 2
  have c3 := blk_cell HN2.out 3
  have c4 := blk_cell HN2.out 4
  by_cases h2 : s.size ≤ 1000
  case neg =>
    have hd : decide ((1000 : Int) < s.size) = true := decide_eq_true (by omega)
    clear h2
    go_wp2_with fail
    go_ret
    exact ⟨rfl, HB2.out⟩
  have hd : decide ((1000 : Int) < s.size) = false := decide_eq_false (by omega)
  have HS := Kp.mk h2
  clear h2
  go_wp2_with fail
  refine (HT.out _).mono ?_
  rintro e u3 ⟨rfl, hb⟩
  have HB3 := Kp.mk (bel_then HB2.out hb)
  have HN3 := Kp.mk (blk_keep HN2.out hb)
  clear hb HT HB2 HN2 c0 c1 c2 c3 c4 hd
  by_cases h3 : Tidy v codec code s
  case neg =>
    rw [decide_eq_false h3]
    clear h3
    go_wp2_with fail
    go_ret
    exact ⟨rfl, HB3.out⟩
  rw [decide_eq_true h3]
  have HTD := Kp.mk h3
  clear h3
  obtain ⟨N, hN⟩ : ∃ N, N = s.size + 8 := ⟨_, rfl⟩
  have hNi : (s.size : Int) + 8 = (N : Int) := by omega
  have hwN : IntKind.u64.wrap (N : Int) = N := wraps_u64 _ (by omega) (by have := HS.out; omega)
  have hw64 : wrap64 (N : Int) = N := by have := HS.out; unfold wrap64; omega
  have HNN := Kp.mk hN
  have c3 := blk_cell HN3.out 3
  clear hN
  go_wp2_with fail
  clear c3 hNi hwN hw64
  obtain ⟨L1, hL1⟩ : ∃ q, q = strB (Lib.leBytes 4 1) := ⟨_, rfl⟩
  obtain ⟨L2, hL2⟩ : ∃ q, q = strB (Lib.leBytes 4 N) := ⟨_, rfl⟩
  obtain ⟨L3, hL3⟩ : ∃ q, q = strB (Lib.leBytes 8 N) := ⟨_, rfl⟩
  obtain ⟨L4, hL4⟩ : ∃ q, q = strB (Lib.leBytes 8 off) := ⟨_, rfl⟩
  obtain ⟨L5, hL5⟩ : ∃ q, q = strB (Lib.leBytes 8 code) := ⟨_, rfl⟩
  have hz1 : L1.size = 4 := by rw [hL1, strB_size, Lib.leBytes_length]
  have hz2 : L2.size = 4 := by rw [hL2, strB_size, Lib.leBytes_length]
  have hz3 : L3.size = 8 := by rw [hL3, strB_size, Lib.leBytes_length]
  have hz4 : L4.size = 8 := by rw [hL4, strB_size, Lib.leBytes_length]
  have hz5 : L5.size = 8 := by rw [hL5, strB_size, Lib.leBytes_length]
  obtain ⟨A1, hA1⟩ : ∃ q, q = L1 ++ L2 := ⟨_, rfl⟩
  obtain ⟨A2, hA2⟩ : ∃ q, q = A1 ++ L3 := ⟨_, rfl⟩
  obtain ⟨A3, hA3⟩ : ∃ q, q = A2 ++ s := ⟨_, rfl⟩
  obtain ⟨A4, hA4⟩ : ∃ q, q = A3 ++ L4 := ⟨_, rfl⟩
  obtain ⟨B1, hB1⟩ : ∃ q, q = (⟨#[128, 8]⟩ : ByteArray) ++ A4 := ⟨_, rfl⟩
  obtain ⟨B2, hB2⟩ : ∃ q, q = (⟨#[129, 8]⟩ : ByteArray) ++ L1 := ⟨_, rfl⟩
  obtain ⟨B3, hB3⟩ : ∃ q, q = B2 ++ L5 := ⟨_, rfl⟩
  obtain ⟨B4, hB4⟩ : ∃ q, q = B3 ++ A4 := ⟨_, rfl⟩
  have y1 : A1.size = 8 := by rw [hA1, cat_size]; omega
  have y2 : A2.size = 16 := by rw [hA2, cat_size]; omega
  have y3 : A3.size = 16 + s.size := by rw [hA3, cat_size]; omega
  have y4 : A4.size = 24 + s.size := by rw [hA4, cat_size]; omega
  have y5 : B2.size = 6 := by rw [hB2, cat_size, hz1]; rfl
  have y6 : B3.size = 14 := by rw [hB3, cat_size]; omega
  have HSZ := Kp.mk (And.intro hz1 (And.intro hz2 (And.intro hz3 (And.intro hz4 (And.intro hz5 (And.intro y1 (And.intro y2 (And.intro y3 (And.intro y4 (And.intro y5 y6))))))))))
  have HAS := Kp.mk (And.intro hA1 (And.intro hA2 (And.intro hA3 (And.intro hA4 (And.intro hB1 (And.intro hB2 (And.intro hB3 hB4)))))))
  have HNL : Kp (N < 2 ^ 64) := ⟨by have := HNN.out; have := HS.out; omega⟩
  have HI1 := Kp.mk (fun w => ixNum4_calls 1 w (by omega))
  have HI2 := Kp.mk (fun w => ixNum4_calls N w HNL.out)
  have HI3 := Kp.mk (fun w => ixNum8_calls N w HNL.out)
  have HI4 := Kp.mk (fun w => ixNum8_calls off w HX.out.2.1)
  have HI5 := Kp.mk (fun w => ixNum8_calls code w HX.out.1)
  rw [← hL1] at HI1
  rw [← hL2] at HI2
  rw [← hL3] at HI3
  rw [← hL4] at HI4
  rw [← hL5] at HI5
  have hS1 : strB ([128, 8] ++ (Lib.leBytes 4 1 ++ (Lib.leBytes 4 (s.size + 8) ++ Lib.leBytes 8 (s.size + 8) ++ (bl s ++ Lib.leBytes 8 off)))) = B1 := by
    rw [hB1, hA4, hA3, hA2, hA1, hL1, hL2, hL3, hL4, ← HNN.out, ← strB_bl s, show (⟨#[128, 8]⟩ : ByteArray) = strB [128, 8] from rfl]
    simp only [cat_strB, bl_strB, List.append_assoc]
  have hS2 : strB ([129, 8] ++ (Lib.leBytes 4 1 ++ (Lib.leBytes 8 code ++ Lib.leBytes 4 1 ++ (Lib.leBytes 4 (s.size + 8) ++ Lib.leBytes 8 (s.size + 8) ++ (bl s ++ Lib.leBytes 8 off))))) = B4 := by
    rw [hB4, hB3, hB2, hA4, hA3, hA2, hA1, hL1, hL2, hL3, hL4, hL5, ← HNN.out, ← strB_bl s, show (⟨#[129, 8]⟩ : ByteArray) = strB [129, 8] from rfl]
    simp only [cat_strB, bl_strB, List.append_assoc]
  have HIA := Kp.mk (fun gE oE cE w he0 he1 he2 he3 he4 he => ixBA_calls gE oE cE v codec code off s w he0 he1 he2 he3 he4 HTD.out HS.out HX.out.2.1 he)
  have HIB := Kp.mk (fun gE oE cE w he0 he1 he2 he3 he4 he => ixBB_calls gE oE cE v codec code off s w he0 he1 he2 he3 he4 HTD.out HS.out HX.out.2.1 he)
  rw [hS1] at HIA
  rw [hS2] at HIB
  clear hL1 hL2 hL3 hL4 hL5 hz1 hz2 hz3 hz4 hz5 hA1 hA2 hA3 hA4 hB1 hB2 hB3 hB4 y1 y2 y3 y4 y5 y6 hS1 hS2
  refine wp_region_growR (fun u u' => Below u.heap.size u u') (fun _ => Below.refl _ _) (fun _ _ _ h k => bel_then h k) (by kernel_rfl) 16 (by decide) (apart_of (by kernel_rfl)) (by kernel_rfl) (ioR eb N off s L1 L2 L3 L4 A1 A2 A3 A4) (fun _ _ _ _ => True) (fun _ _ _ _ h _ => by unfold ioR at *; exact h) ?_ ?_
  · intro j hj ob ho vs w5 hb5 hpre
    have hn5 := blk_keep HN3.out (bel_then (bel_drew (Below.refl u3.heap.size u3)) hb5)
    have k3 := blk_cell hn5 3
    have k4 := blk_cell hn5 4
    clear hb5 hn5
    rcases j with _ | _ | _ | _ | _ | _ | _ | _ | _ | _ | _ | _ | _ | _ | _ | _ | j
    · obtain rfl := Option.some.inj ho
      simp only [canon, List.range, List.range.loop, List.foldl]
      go_simp
      refine (HI1.out w5).mono ?_
      rintro e w6 ⟨rfl, hb6⟩
      exact ⟨rfl, hb6⟩
    · obtain rfl := Option.some.inj ho
      simp only [canon, List.range, List.range.loop, List.foldl]
      go_simp
      exact ⟨rfl, Below.refl _ _⟩
    · have e1 : vs 1 = _ := hpre 1 (by decide) (by obtain rfl := Option.some.inj ho; rfl)
      obtain rfl := Option.some.inj ho
      simp only [canon, List.range, List.range.loop, List.foldl]
      go_simp
      refine (HI2.out w5).mono ?_
      rintro e w6 ⟨rfl, hb6⟩
      exact ⟨rfl, hb6⟩
    · have e0 : vs 0 = _ := hpre 0 (by decide) (by obtain rfl := Option.some.inj ho; rfl)
      have e2 : vs 2 = _ := hpre 2 (by decide) (by obtain rfl := Option.some.inj ho; rfl)
      obtain rfl := Option.some.inj ho
      simp only [canon, List.range, List.range.loop, List.foldl]
      go_simp
      rw [if_neg (by have h1 := HSZ.out; have h2 := HS.out; omega)]
      refine ⟨_, rfl, ?_, Below.refl _ _⟩
      show _ = _
      rw [HAS.out.1]
    · obtain rfl := Option.some.inj ho
      simp only [canon, List.range, List.range.loop, List.foldl]
      go_simp
      exact ⟨rfl, Below.refl _ _⟩
    · have e4 : vs 4 = _ := hpre 4 (by decide) (by obtain rfl := Option.some.inj ho; rfl)
      obtain rfl := Option.some.inj ho
      simp only [canon, List.range, List.range.loop, List.foldl]
      go_simp
      refine (HI3.out w5).mono ?_
      rintro e w6 ⟨rfl, hb6⟩
      exact ⟨rfl, hb6⟩
    · have e3 : vs 3 = _ := hpre 3 (by decide) (by obtain rfl := Option.some.inj ho; rfl)
      have e5 : vs 5 = _ := hpre 5 (by decide) (by obtain rfl := Option.some.inj ho; rfl)
      obtain rfl := Option.some.inj ho
      simp only [canon, List.range, List.range.loop, List.foldl]
      go_simp
      rw [if_neg (by have h1 := HSZ.out; have h2 := HS.out; omega)]
      refine ⟨_, rfl, ?_, Below.refl _ _⟩
      show _ = _
      rw [HAS.out.2.1]
    · obtain rfl := Option.some.inj ho
      simp only [canon, List.range, List.range.loop, List.foldl]
      go_simp
      exact ⟨rfl, Below.refl _ _⟩
    · have e7 : vs 7 = _ := hpre 7 (by decide) (by obtain rfl := Option.some.inj ho; rfl)
      obtain rfl := Option.some.inj ho
      simp only [canon, List.range, List.range.loop, List.foldl]
      go_simp
      exact ⟨rfl, Below.refl _ _⟩
    · have e8 : vs 8 = _ := hpre 8 (by decide) (by obtain rfl := Option.some.inj ho; rfl)
      obtain rfl := Option.some.inj ho
      simp only [canon, List.range, List.range.loop, List.foldl]
      go_simp
      exact ⟨rfl, Below.refl _ _⟩
    · have e6 : vs 6 = _ := hpre 6 (by decide) (by obtain rfl := Option.some.inj ho; rfl)
      have e9 : vs 9 = _ := hpre 9 (by decide) (by obtain rfl := Option.some.inj ho; rfl)
      obtain rfl := Option.some.inj ho
      simp only [canon, List.range, List.range.loop, List.foldl]
      go_simp
      rw [if_neg (by have h1 := HSZ.out; have h2 := HS.out; omega)]
      refine ⟨_, rfl, ?_, Below.refl _ _⟩
      show _ = _
      rw [HAS.out.2.2.1]
    · obtain rfl := Option.some.inj ho
      simp only [canon, List.range, List.range.loop, List.foldl]
      go_simp
      exact ⟨rfl, Below.refl _ _⟩
    · have e11 : vs 11 = _ := hpre 11 (by decide) (by obtain rfl := Option.some.inj ho; rfl)
      obtain rfl := Option.some.inj ho
      simp only [canon, List.range, List.range.loop, List.foldl]
      go_simp
      exact ⟨rfl, Below.refl _ _⟩
    · have e12 : vs 12 = _ := hpre 12 (by decide) (by obtain rfl := Option.some.inj ho; rfl)
      obtain rfl := Option.some.inj ho
      simp only [canon, List.range, List.range.loop, List.foldl]
      go_simp
      refine (HI4.out w5).mono ?_
      rintro e w6 ⟨rfl, hb6⟩
      exact ⟨rfl, hb6⟩
    · have e10 : vs 10 = _ := hpre 10 (by decide) (by obtain rfl := Option.some.inj ho; rfl)
      have e13 : vs 13 = _ := hpre 13 (by decide) (by obtain rfl := Option.some.inj ho; rfl)
      obtain rfl := Option.some.inj ho
      simp only [canon, List.range, List.range.loop, List.foldl]
      go_simp
      rw [if_neg (by have h1 := HSZ.out; have h2 := HS.out; omega)]
      refine ⟨_, rfl, ?_, Below.refl _ _⟩
      show _ = _
      rw [HAS.out.2.2.2.1]
    · have e14 : vs 14 = _ := hpre 14 (by decide) (by obtain rfl := Option.some.inj ho; rfl)
      obtain rfl := Option.some.inj ho
      simp only [canon, List.range, List.range.loop, List.foldl]
      go_simp
      exact ⟨rfl, Below.refl _ _⟩
    · omega
  · intro vs w5 hb5 hrr _
    have e15 : vs 15 = _ := hrr 15 (by omega)
    have hb := bel_then (bel_drew (Below.refl u3.heap.size u3)) hb5
    have HB5 := Kp.mk (bel_then HB3.out hb)
    have hn5 := blk_keep HN3.out hb
    have HN5 := Kp.mk hn5
    refine wpAny_none (by kernel_rfl) ?_ _
    simp only [canon, List.range, List.range.loop, List.foldl]
    rw [e15]
    clear e15 hrr hb5 hb hn5 HB3 HN3
    go_simp
    have k0 := blk_cell HN5.out 0
    have k1 := blk_cell HN5.out 1
    have k2 := blk_cell HN5.out 2
    have k3 := blk_cell HN5.out 3
    have k4 := blk_cell HN5.out 4
    go_wp2_with fail
    have hal := bel_alloc (Below.refl w5.heap.size w5) (.cells #[.int .u64 v, .int .u64 codec, .int .u64 code, .string s, .int .u64 off] 26)
    have hnw := blk_new (w := w5) (o := .cells #[.int .u64 v, .int .u64 codec, .int .u64 code, .string s, .int .u64 off] 26) (Below.refl _ _)
    refine (HIA.out w5.heap.size 0 1 _ (blk_cell hnw 0) (blk_cell hnw 1) (blk_cell hnw 2) (blk_cell hnw 3) (blk_cell hnw 4) (HX.out.2.2.below (bel_then HB5.out hal))).mono ?_
    rintro e u6 ⟨rfl, hb⟩
    have HB6 := Kp.mk (bel_then (bel_then HB5.out hal) hb)
    have HN6 := Kp.mk (blk_keep (blk_keep HN5.out hal) hb)
    clear hal hnw hb k0 k1 k2 k3 k4 HN5 HB5 HIA
    have k0 := blk_cell HN6.out 0
    have k1 := blk_cell HN6.out 1
    have k2 := blk_cell HN6.out 2
    have k3 := blk_cell HN6.out 3
    have k4 := blk_cell HN6.out 4
    go_wp2_with fail
    have hal := bel_alloc (Below.refl u6.heap.size u6) (.cells #[.int .u64 v, .int .u64 codec, .int .u64 code, .string s, .int .u64 off] 26)
    have hnw := blk_new (w := u6) (o := .cells #[.int .u64 v, .int .u64 codec, .int .u64 code, .string s, .int .u64 off] 26) (Below.refl _ _)
    refine (HIB.out u6.heap.size 0 1 _ (blk_cell hnw 0) (blk_cell hnw 1) (blk_cell hnw 2) (blk_cell hnw 3) (blk_cell hnw 4) (HX.out.2.2.below (bel_then HB6.out hal))).mono ?_
    rintro e u7 ⟨rfl, hb⟩
    have HB7 := Kp.mk (bel_then (bel_then HB6.out hal) hb)
    have HN7 := Kp.mk (blk_keep (blk_keep HN6.out hal) hb)
    clear hal hnw hb k0 k1 k2 k3 k4 HN6 HB6 HIB
    go_wp2_with fail
    refine wp_region_growG (fun u u' => Below u.heap.size u u') (fun _ => Below.refl _ _) (fun _ _ _ h k => bel_then h k) (by kernel_rfl) 24 (by decide) (apart_of (by kernel_rfl)) (by kernel_rfl) (ieR2 eb code L1 L5 A4 B1 B2 B3 B4) (fun _ _ _ _ h _ => by unfold ieR2 at *; exact h) ?_ ?_
    · intro j hj ob ho vs w8 hb8 hpre
      have hn8 := blk_keep HN7.out (bel_then (bel_drew (Below.refl u7.heap.size u7)) hb8)
      have k2 := blk_cell hn8 2
      clear hb8 hn8
      rcases j with _ | _ | _ | _ | _ | _ | _ | _ | _ | _ | _ | _ | _ | _ | _ | _ | _ | _ | _ | _ | _ | _ | _ | _ | j
      · obtain rfl := Option.some.inj ho
        refine .inl ⟨rfl, ?_⟩
        simp only [canon, List.range, List.range.loop, List.foldl]
        go_simp
        exact ⟨rfl, Below.refl _ _⟩
      · have e0 : vs 0 = _ := hpre 0 (by decide) (by obtain rfl := Option.some.inj ho; rfl)
        obtain rfl := Option.some.inj ho
        refine .inl ⟨rfl, ?_⟩
        simp only [canon, List.range, List.range.loop, List.foldl]
        go_simp
        exact ⟨rfl, Below.refl _ _⟩
      · have e1 : vs 1 = _ := hpre 1 (by decide) (by obtain rfl := Option.some.inj ho; rfl)
        obtain rfl := Option.some.inj ho
        refine .inl ⟨wanted_of rfl rfl (Nat.le_of_ble_eq_true rfl) (by decide) (apart_of (by kernel_rfl)) e1, ?_⟩
        simp only [canon, List.range, List.range.loop, List.foldl]
        go_simp
        exact ⟨rfl, Below.refl _ _⟩
      · have e1 : vs 1 = _ := hpre 1 (by decide) (by obtain rfl := Option.some.inj ho; rfl)
        have e2 : vs 2 = _ := hpre 2 (by decide) (by obtain rfl := Option.some.inj ho; rfl)
        obtain rfl := Option.some.inj ho
        refine .inl ⟨rfl, ?_⟩
        simp only [canon, List.range, List.range.loop, List.foldl]
        go_simp
        exact ⟨rfl, Below.refl _ _⟩
      · have e3 : vs 3 = _ := hpre 3 (by decide) (by obtain rfl := Option.some.inj ho; rfl)
        obtain rfl := Option.some.inj ho
        refine .inl ⟨rfl, ?_⟩
        simp only [canon, List.range, List.range.loop, List.foldl]
        go_simp
        exact ⟨rfl, Below.refl _ _⟩
      · have e4 : vs 4 = _ := hpre 4 (by decide) (by obtain rfl := Option.some.inj ho; rfl)
        obtain rfl := Option.some.inj ho
        refine .inl ⟨wanted_of rfl rfl (Nat.le_of_ble_eq_true rfl) (by decide) (apart_of (by kernel_rfl)) e4, ?_⟩
        simp only [canon, List.range, List.range.loop, List.foldl]
        go_simp
        exact ⟨rfl, Below.refl _ _⟩
      · have e4 : vs 4 = _ := hpre 4 (by decide) (by obtain rfl := Option.some.inj ho; rfl)
        obtain rfl := Option.some.inj ho
        refine .inl ⟨wanted_of rfl rfl (Nat.le_of_ble_eq_true rfl) (by decide) (apart_of (by kernel_rfl)) e4, ?_⟩
        simp only [canon, List.range, List.range.loop, List.foldl]
        go_simp
        exact ⟨rfl, Below.refl _ _⟩
      · have e4 : vs 4 = _ := hpre 4 (by decide) (by obtain rfl := Option.some.inj ho; rfl)
        have e6 : vs 6 = _ := hpre 6 (by decide) (by obtain rfl := Option.some.inj ho; rfl)
        obtain rfl := Option.some.inj ho
        refine .inl ⟨wanted_of rfl rfl (Nat.le_of_ble_eq_true rfl) (by decide) (apart_of (by kernel_rfl)) e4, ?_⟩
        simp only [canon, List.range, List.range.loop, List.foldl]
        go_simp
        rw [if_neg (by have h1 := HSZ.out; have h2 := HS.out; have h3 : (⟨#[128, 8]⟩ : ByteArray).size = 2 := rfl; have h4 : (⟨#[129, 8]⟩ : ByteArray).size = 2 := rfl; omega)]
        refine ⟨_, rfl, ?_, Below.refl _ _⟩
        show _ = _
        rw [HAS.out.2.2.2.2.1]
      · have e4 : vs 4 = _ := hpre 4 (by decide) (by obtain rfl := Option.some.inj ho; rfl)
        have e5 : vs 5 = _ := hpre 5 (by decide) (by obtain rfl := Option.some.inj ho; rfl)
        have e7 : vs 7 = _ := hpre 7 (by decide) (by obtain rfl := Option.some.inj ho; rfl)
        obtain rfl := Option.some.inj ho
        refine .inl ⟨wanted_of rfl rfl (Nat.le_of_ble_eq_true rfl) (by decide) (apart_of (by kernel_rfl)) e4, ?_⟩
        simp only [canon, List.range, List.range.loop, List.foldl]
        go_simp
        exact ⟨by first | rfl | simp, Below.refl _ _⟩
      · have e4 : vs 4 = _ := hpre 4 (by decide) (by obtain rfl := Option.some.inj ho; rfl)
        have e8 : vs 8 = _ := hpre 8 (by decide) (by obtain rfl := Option.some.inj ho; rfl)
        obtain rfl := Option.some.inj ho
        refine .inl ⟨rfl, ?_⟩
        simp only [canon, List.range, List.range.loop, List.foldl]
        go_simp
        exact ⟨rfl, Below.refl _ _⟩
      · have e9 : vs 9 = _ := hpre 9 (by decide) (by obtain rfl := Option.some.inj ho; rfl)
        obtain rfl := Option.some.inj ho
        refine .inl ⟨rfl, ?_⟩
        simp only [canon, List.range, List.range.loop, List.foldl]
        go_simp
        exact ⟨rfl, Below.refl _ _⟩
      · have e10 : vs 10 = _ := hpre 10 (by decide) (by obtain rfl := Option.some.inj ho; rfl)
        obtain rfl := Option.some.inj ho
        refine .inl ⟨wanted_of rfl rfl (Nat.le_of_ble_eq_true rfl) (by decide) (apart_of (by kernel_rfl)) e10, ?_⟩
        simp only [canon, List.range, List.range.loop, List.foldl]
        go_simp
        exact ⟨rfl, Below.refl _ _⟩
      · have e10 : vs 10 = _ := hpre 10 (by decide) (by obtain rfl := Option.some.inj ho; rfl)
        obtain rfl := Option.some.inj ho
        refine .inl ⟨wanted_of rfl rfl (Nat.le_of_ble_eq_true rfl) (by decide) (apart_of (by kernel_rfl)) e10, ?_⟩
        simp only [canon, List.range, List.range.loop, List.foldl]
        go_simp
        refine (HI1.out w8).mono ?_
        rintro e w9 ⟨rfl, hb9⟩
        exact ⟨rfl, hb9⟩
      · have e10 : vs 10 = _ := hpre 10 (by decide) (by obtain rfl := Option.some.inj ho; rfl)
        have e12 : vs 12 = _ := hpre 12 (by decide) (by obtain rfl := Option.some.inj ho; rfl)
        obtain rfl := Option.some.inj ho
        refine .inl ⟨wanted_of rfl rfl (Nat.le_of_ble_eq_true rfl) (by decide) (apart_of (by kernel_rfl)) e10, ?_⟩
        simp only [canon, List.range, List.range.loop, List.foldl]
        go_simp
        rw [if_neg (by have h1 := HSZ.out; have h2 := HS.out; have h3 : (⟨#[128, 8]⟩ : ByteArray).size = 2 := rfl; have h4 : (⟨#[129, 8]⟩ : ByteArray).size = 2 := rfl; omega)]
        refine ⟨_, rfl, ?_, Below.refl _ _⟩
        show _ = _
        rw [HAS.out.2.2.2.2.2.1]
      · have e10 : vs 10 = _ := hpre 10 (by decide) (by obtain rfl := Option.some.inj ho; rfl)
        obtain rfl := Option.some.inj ho
        refine .inl ⟨wanted_of rfl rfl (Nat.le_of_ble_eq_true rfl) (by decide) (apart_of (by kernel_rfl)) e10, ?_⟩
        simp only [canon, List.range, List.range.loop, List.foldl]
        go_simp
        exact ⟨rfl, Below.refl _ _⟩
      · have e10 : vs 10 = _ := hpre 10 (by decide) (by obtain rfl := Option.some.inj ho; rfl)
        have e14 : vs 14 = _ := hpre 14 (by decide) (by obtain rfl := Option.some.inj ho; rfl)
        obtain rfl := Option.some.inj ho
        refine .inl ⟨wanted_of rfl rfl (Nat.le_of_ble_eq_true rfl) (by decide) (apart_of (by kernel_rfl)) e10, ?_⟩
        simp only [canon, List.range, List.range.loop, List.foldl]
        go_simp
        exact ⟨rfl, Below.refl _ _⟩
      · have e10 : vs 10 = _ := hpre 10 (by decide) (by obtain rfl := Option.some.inj ho; rfl)
        have e15 : vs 15 = _ := hpre 15 (by decide) (by obtain rfl := Option.some.inj ho; rfl)
        obtain rfl := Option.some.inj ho
        refine .inl ⟨wanted_of rfl rfl (Nat.le_of_ble_eq_true rfl) (by decide) (apart_of (by kernel_rfl)) e10, ?_⟩
        simp only [canon, List.range, List.range.loop, List.foldl]
        go_simp
        exact ⟨rfl, Below.refl _ _⟩
      · have e10 : vs 10 = _ := hpre 10 (by decide) (by obtain rfl := Option.some.inj ho; rfl)
        have e16 : vs 16 = _ := hpre 16 (by decide) (by obtain rfl := Option.some.inj ho; rfl)
        obtain rfl := Option.some.inj ho
        refine .inl ⟨wanted_of rfl rfl (Nat.le_of_ble_eq_true rfl) (by decide) (apart_of (by kernel_rfl)) e10, ?_⟩
        simp only [canon, List.range, List.range.loop, List.foldl]
        go_simp
        refine (HI5.out w8).mono ?_
        rintro e w9 ⟨rfl, hb9⟩
        exact ⟨rfl, hb9⟩
      · have e10 : vs 10 = _ := hpre 10 (by decide) (by obtain rfl := Option.some.inj ho; rfl)
        have e13 : vs 13 = _ := hpre 13 (by decide) (by obtain rfl := Option.some.inj ho; rfl)
        have e17 : vs 17 = _ := hpre 17 (by decide) (by obtain rfl := Option.some.inj ho; rfl)
        obtain rfl := Option.some.inj ho
        refine .inl ⟨wanted_of rfl rfl (Nat.le_of_ble_eq_true rfl) (by decide) (apart_of (by kernel_rfl)) e10, ?_⟩
        simp only [canon, List.range, List.range.loop, List.foldl]
        go_simp
        rw [if_neg (by have h1 := HSZ.out; have h2 := HS.out; have h3 : (⟨#[128, 8]⟩ : ByteArray).size = 2 := rfl; have h4 : (⟨#[129, 8]⟩ : ByteArray).size = 2 := rfl; omega)]
        refine ⟨_, rfl, ?_, Below.refl _ _⟩
        show _ = _
        rw [HAS.out.2.2.2.2.2.2.1]
      · have e10 : vs 10 = _ := hpre 10 (by decide) (by obtain rfl := Option.some.inj ho; rfl)
        obtain rfl := Option.some.inj ho
        refine .inl ⟨wanted_of rfl rfl (Nat.le_of_ble_eq_true rfl) (by decide) (apart_of (by kernel_rfl)) e10, ?_⟩
        simp only [canon, List.range, List.range.loop, List.foldl]
        go_simp
        exact ⟨rfl, Below.refl _ _⟩
      · have e10 : vs 10 = _ := hpre 10 (by decide) (by obtain rfl := Option.some.inj ho; rfl)
        have e18 : vs 18 = _ := hpre 18 (by decide) (by obtain rfl := Option.some.inj ho; rfl)
        have e19 : vs 19 = _ := hpre 19 (by decide) (by obtain rfl := Option.some.inj ho; rfl)
        obtain rfl := Option.some.inj ho
        refine .inl ⟨wanted_of rfl rfl (Nat.le_of_ble_eq_true rfl) (by decide) (apart_of (by kernel_rfl)) e10, ?_⟩
        simp only [canon, List.range, List.range.loop, List.foldl]
        go_simp
        rw [if_neg (by have h1 := HSZ.out; have h2 := HS.out; have h3 : (⟨#[128, 8]⟩ : ByteArray).size = 2 := rfl; have h4 : (⟨#[129, 8]⟩ : ByteArray).size = 2 := rfl; omega)]
        refine ⟨_, rfl, ?_, Below.refl _ _⟩
        show _ = _
        rw [HAS.out.2.2.2.2.2.2.2]
      · have e10 : vs 10 = _ := hpre 10 (by decide) (by obtain rfl := Option.some.inj ho; rfl)
        have e11 : vs 11 = _ := hpre 11 (by decide) (by obtain rfl := Option.some.inj ho; rfl)
        have e20 : vs 20 = _ := hpre 20 (by decide) (by obtain rfl := Option.some.inj ho; rfl)
        obtain rfl := Option.some.inj ho
        refine .inl ⟨wanted_of rfl rfl (Nat.le_of_ble_eq_true rfl) (by decide) (apart_of (by kernel_rfl)) e10, ?_⟩
        simp only [canon, List.range, List.range.loop, List.foldl]
        go_simp
        exact ⟨by first | rfl | simp, Below.refl _ _⟩
      · have e10 : vs 10 = _ := hpre 10 (by decide) (by obtain rfl := Option.some.inj ho; rfl)
        have e21 : vs 21 = _ := hpre 21 (by decide) (by obtain rfl := Option.some.inj ho; rfl)
        obtain rfl := Option.some.inj ho
        refine .inl ⟨rfl, ?_⟩
        simp only [canon, List.range, List.range.loop, List.foldl]
        go_simp
        exact ⟨rfl, Below.refl _ _⟩
      · have e22 : vs 22 = _ := hpre 22 (by decide) (by obtain rfl := Option.some.inj ho; rfl)
        obtain rfl := Option.some.inj ho
        refine .inl ⟨rfl, ?_⟩
        simp only [canon, List.range, List.range.loop, List.foldl]
        go_simp
        exact ⟨rfl, Below.refl _ _⟩
      · omega
    · intro vs w8 hb hr
      have e23 : vs 23 = _ := hr 23 (by omega)
      have HB8 := Kp.mk (bel_then HB7.out (bel_then (bel_drew (Below.refl u7.heap.size u7)) hb))
      refine wpAny_none (by kernel_rfl) ?_ _
      simp only [canon, List.range, List.range.loop, List.foldl]
      rw [e23]
      clear e23 hr hb
      go_simp
      go_wp2_with fail
      go_ret
      exact ⟨rfl, HB8.out⟩

end Go.Proofs.YtnhnkfdhkifahaaGreatDoor
