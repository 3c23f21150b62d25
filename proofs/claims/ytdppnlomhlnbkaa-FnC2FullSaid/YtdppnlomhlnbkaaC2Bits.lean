/- The walks of the functions about the bit that says that all sections are in the index. -/
import Derived.Test.YtdppnlomhlnbkaaC2B
import Derived.Test.YtdppnlomhlnbkaaGrowG
import Derived.Laws.Bits64b
import Derived.Laws.BitsLemmas
namespace Go.Proofs.Ytdppnlomhlnbkaa
open Go.RowKit

/-- All bits but the eighth. -/
def but8 : Nat := 18446744073709551487
theorem but8_test (i : Nat) : but8.testBit i = (decide (i < 64) && !decide (i = 7)) := by
  by_cases h : i < 64
  · have : ∀ i : Fin 64, but8.testBit i.val = (decide (i.val < 64) && !decide (i.val = 7)) := by decide +kernel
    exact this ⟨i, h⟩
  · rw [decide_eq_false h, Bool.false_and]
    exact Nat.testBit_lt_two_pow (Nat.lt_of_lt_of_le (by decide : but8 < 2 ^ 64) (Nat.pow_le_pow_right (by decide) (by omega)))
theorem t128 (i : Nat) : Nat.testBit 128 i = decide (7 = i) := by rw [show (128 : Nat) = 2 ^ 7 from rfl, Nat.testBit_two_pow]
theorem big_test {x i : Nat} (hx : x < 2 ^ 64) (hi : ¬ i < 64) : x.testBit i = false := Nat.testBit_lt_two_pow (Nat.lt_of_lt_of_le hx (Nat.pow_le_pow_right (by decide) (by omega)))
theorem clr_set {x : Nat} (hx : x < 2 ^ 64) : (x &&& but8) ||| 128 = x ||| 128 := by
  apply Nat.eq_of_testBit_eq
  intro i
  rw [Nat.testBit_or, Nat.testBit_or, Nat.testBit_and, but8_test, t128]
  by_cases h : i < 64
  · by_cases h7 : i = 7
    · subst h7; simp
    · rw [decide_eq_true h, decide_eq_false h7]; simp
  · rw [big_test hx h]; simp
theorem set_and (x : Nat) : (x ||| 128) &&& 128 = 128 := by
  apply Nat.eq_of_testBit_eq
  intro i
  rw [Nat.testBit_and, Nat.testBit_or, t128]
  cases x.testBit i <;> cases decide (7 = i) <;> rfl
theorem clr_and (x : Nat) : (x &&& but8) &&& 128 = 0 := by
  apply Nat.eq_of_testBit_eq
  intro i
  rw [Nat.testBit_and, Nat.testBit_and, but8_test, t128, Nat.zero_testBit]
  by_cases h7 : 7 = i
  · subst h7; simp
  · rw [decide_eq_false h7, Bool.and_false]
theorem set_lt {x : Nat} (hx : x < 2 ^ 64) : x ||| 128 < 2 ^ 64 := Nat.or_lt_two_pow hx (by decide)
theorem clr_lt {x : Nat} (hx : x < 2 ^ 64) : x &&& but8 < 2 ^ 64 := Nat.lt_of_le_of_lt Nat.and_le_left hx
theorem low_and (x : Nat) : (x % 256) &&& 128 = x &&& 128 := by
  apply Nat.eq_of_testBit_eq
  intro i
  rw [Nat.testBit_and, Nat.testBit_and, t128, show (256 : Nat) = 2 ^ 8 from rfl, Nat.testBit_mod_two_pow]
  by_cases h7 : 7 = i
  · subst h7; simp
  · rw [decide_eq_false h7, Bool.and_false, Bool.and_false]

/-- The header's first number with the bit as it is asked for. -/
def bitted (yes : Bool) (x : Nat) : Nat := if yes then x ||| 128 else x &&& but8
theorem bitted_lt {x : Nat} (hx : x < 2 ^ 64) (yes : Bool) : bitted yes x < 2 ^ 64 := by unfold bitted; split; exact set_lt hx; exact clr_lt hx
theorem bitted_and (yes : Bool) (x : Nat) : bitted yes x &&& 128 = if yes then 128 else 0 := by unfold bitted; split; exact set_and x; exact clr_and x

theorem andNot_nat (x : Nat) (hx : x < 2 ^ 64) : bits .andNot .u64 (x : Int) 128 = ((x &&& but8 : Nat) : Int) := by
  have h1 : (BitVec.ofInt 64 (x : Int)).toNat = x := by
    rw [BitVec.ofInt_natCast, BitVec.toNat_ofNat]; exact Nat.mod_eq_of_lt hx
  show IntKind.u64.wrap ((BitVec.ofInt 64 (x : Int) &&& ~~~ BitVec.ofInt 64 128).toNat : Int) = _
  rw [BitVec.toNat_and, h1, show (~~~ BitVec.ofInt 64 128).toNat = but8 from by decide, IntKind.wrap_u64]
  have := clr_lt hx
  omega

/-- Whether the bit is set. -/
def bitB (x : Nat) : Bool := x &&& 128 != 0

set_option maxHeartbeats 800000 in
theorem setBit_calls (x : Nat) (w : World) (hx : x < 2 ^ 64) :
    Calls Try.prog 15 #[.int .u64 x, .int .u64 7] w fun e w' => e = .returned (.int .u64 (x ||| 128 : Nat)) ∧ w = w' := by
  have ho := bits_or_u64_nat x 128 hx (by decide)
  rw [show ((128 : Nat) : Int) = 128 from rfl] at ho
  generalize x ||| 128 = y at *
  clear hx
  go_enter Try.func15, Try.ntmps15
  go_wp2
  go_ret
  exact ⟨rfl, rfl⟩

set_option maxHeartbeats 800000 in
theorem unsetBit_calls (x : Nat) (w : World) (hx : x < 2 ^ 64) :
    Calls Try.prog 16 #[.int .u64 x, .int .u64 7] w fun e w' => e = .returned (.int .u64 (x &&& but8 : Nat)) ∧ w = w' := by
  have ho := bits_and_u64_nat x but8 hx (by decide)
  rw [show ((but8 : Nat) : Int) = 18446744073709551487 from rfl] at ho
  have hxo : bits .xor .u64 IntKind.u64.max 128 = 18446744073709551487 := by decide
  generalize x &&& but8 = y at *
  clear hx
  go_enter Try.func16, Try.ntmps16
  go_wp2
  go_ret
  exact ⟨rfl, rfl⟩

set_option maxHeartbeats 800000 in
theorem isBitSet_calls (x : Nat) (w : World) (hx : x < 2 ^ 64) :
    Calls Try.prog 19 #[.int .u64 x, .int .u64 7] w fun e w' => e = .returned (.bool (bitB x)) ∧ w = w' := by
  have ho := bits_and_u64_nat x 128 hx (by decide)
  rw [show ((128 : Nat) : Int) = 128 from rfl] at ho
  unfold bitB
  generalize x &&& 128 = y at *
  clear hx
  have hb : decide (0 < y) = (y != 0) := by
    by_cases h : y = 0
    · subst h; rfl
    · rw [decide_eq_true (by omega)]; simp [h]
  go_enter Try.func19, Try.ntmps19
  go_wp2
  go_ret
  exact ⟨rfl, rfl⟩

set_option maxHeartbeats 800000 in
/-- (*Characteristics).IsFullyIndexed at a header's first cell. -/
theorem isFull_calls (g x : Nat) (w : World) (c0 : w.cell? ⟨g, 0, none⟩ = some (.int .u64 x)) (hx : x < 2 ^ 64) :
    Calls Try.prog 14 #[.pointer (some ⟨g, 0, none⟩)] w fun e w' => e = .returned (.bool (bitB x)) ∧ w = w' := by
  have HB := Kp.mk (isBitSet_calls x w hx)
  clear hx
  go_enter Try.func14, Try.ntmps14
  go_wp2_with fail
  refine HB.out.mono ?_
  rintro e w' ⟨rfl, rfl⟩
  go_wp2_with fail
  go_ret
  exact ⟨rfl, rfl⟩

set_option maxHeartbeats 800000 in
/-- (*Characteristics).SetFullyIndexed at a header's first cell. -/
theorem setFull_calls (g x : Nat) (yes : Bool) (w : World) (c0 : w.cell? ⟨g, 0, none⟩ = some (.int .u64 x)) (f0 : w.frozen? ⟨g, 0, none⟩ = false) (hx : x < 2 ^ 64) :
    Calls Try.prog 10 #[.pointer (some ⟨g, 0, none⟩), .bool yes] w fun e w' => e = .returned (.tuple #[]) ∧ w' = w.setCell ⟨g, 0, none⟩ (.int .u64 (bitted yes x)) := by
  have HS := Kp.mk (setBit_calls x w hx)
  have HU := Kp.mk (unsetBit_calls x w hx)
  clear hx
  cases yes with
  | true =>
    go_enter Try.func10, Try.ntmps10
    go_wp2_with fail
    refine HS.out.mono ?_
    rintro e w' ⟨rfl, rfl⟩
    go_wp2_with fail
    (first | go_end0 | (simp only [Exit.inBlock, Exit.then]; refine bodyPost_ret (results_none rfl _ _ _) rfl ?_) | refine bodyPost_ret (results_none rfl _ _ _) rfl ?_)
    exact ⟨rfl, rfl⟩
  | false =>
    go_enter Try.func10, Try.ntmps10
    go_wp2_with fail
    refine HU.out.mono ?_
    rintro e w' ⟨rfl, rfl⟩
    go_wp2_with fail
    (first | go_end0 | (simp only [Exit.inBlock, Exit.then]; refine bodyPost_ret (results_none rfl _ _ _) rfl ?_) | refine bodyPost_ret (results_none rfl _ _ _) rfl ?_)
    exact ⟨rfl, rfl⟩

set_option maxHeartbeats 1600000 in
/-- impl.C2Full. -/
theorem c2Full_calls (a b c d e : Nat) (w : World) (ha : a < 2 ^ 64) :
    Calls Try.prog 6 #[hdV a b c d e] w fun e' w' => e' = .returned (.bool (bitB a)) ∧ Below w.heap.size w w' := by
  have HI := Kp.mk (fun w => headIn_calls a b c d e w)
  have HF := Kp.mk (fun g w c0 => isFull_calls g a w c0 ha)
  clear ha
  unfold hdV at *
  go_enter Try.func6, Try.ntmps6
  go_wp2_with fail
  refine (HI.out _).mono ?_
  rintro e1 w1 ⟨rfl, hb⟩
  have HB1 := Kp.mk (bel_new hb)
  clear hb HI
  go_wp2_with fail
  refine (HF.out _ _ (by simp [World.cell?, World.alloc, -World.alloc_eq])).mono ?_
  rintro e1 w' ⟨rfl, rfl⟩
  go_wp2_with fail
  go_ret
  exact ⟨rfl, bel_alloc HB1.out _⟩

set_option maxHeartbeats 1600000 in
set_option maxRecDepth 100000 in
/-- impl.C2SetFull. -/
theorem c2SetFull_calls (a b c d e : Nat) (yes : Bool) (w : World) (ha : a < 2 ^ 64) :
    Calls Try.prog 4 #[hdV a b c d e, .bool yes] w fun e' w' => e' = .returned (hdV (bitted yes a) b c d e) ∧ Below w.heap.size w w' := by
  have HI := Kp.mk (fun w => headIn_calls a b c d e w)
  have HO := Kp.mk (fun w => headOut_calls (bitted yes a) b c d e w)
  have HF := Kp.mk (fun g w c0 f0 => setFull_calls g a yes w c0 f0 ha)
  clear ha
  unfold hdV at *
  go_enter Try.func4, Try.ntmps4
  go_wp2_with fail
  refine (HI.out _).mono ?_
  rintro e1 w1 ⟨rfl, hb⟩
  have HR1 := Kp.mk (blk_new2 hb)
  have HB1 := Kp.mk (bel_new2 hb)
  clear hb HI
  go_wp2_with fail
  refine (HF.out _ _ (by simp [World.cell?, World.alloc, -World.alloc_eq]) (by simp [World.frozen?, World.alloc, -World.alloc_eq])).mono ?_
  rintro e1 w2 ⟨rfl, hw2⟩
  have hg : w2.heap[w1.heap.size]? = some (.cells #[.int .u64 (bitted yes a), .int .u64 b, .int .u64 c, .int .u64 d, .int .u64 e] 32 (0, 0)) := by
    rw [hw2]; exact blk_set (blk_new (Below.refl _ _)) 0 _
  have hlt : w.heap.size + 1 < w1.heap.size := (Array.getElem?_eq_some_iff.1 HR1.out).1
  have hb2 : Below w1.heap.size w1 w2 := by rw [hw2]; exact bel_set (bel_alloc (Below.refl _ _) _) (Nat.le_refl _) _
  have HR2 := Kp.mk (blk_keep HR1.out hb2)
  have HB2 := Kp.mk (bel_then HB1.out hb2)
  have d0 := blk_cell hg 0
  have d1 := blk_cell hg 1
  have d2 := blk_cell hg 2
  have d3 := blk_cell hg 3
  have d4 := blk_cell hg 4
  clear hw2 hg hb2 HR1 HB1 HF
  go_wp2_with fail
  refine (HO.out _).mono ?_
  rintro e1 w3 ⟨rfl, hb⟩
  have HR3 := Kp.mk (blk_keep HR2.out hb)
  have HB3 := Kp.mk (bel_then HB2.out hb)
  clear hb HO d0 d1 d2 d3 d4 HR2 HB2
  have hb0 := blk_cell HR3.out 0
  have hb1 := blk_cell HR3.out 1
  have hb2 := blk_cell HR3.out 2
  have hb3 := blk_cell HR3.out 3
  have hb4 := blk_cell HR3.out 4
  have hf0 := blk_frozen HR3.out 0
  have hf1 := blk_frozen HR3.out 1
  have hf2 := blk_frozen HR3.out 2
  have hf3 := blk_frozen HR3.out 3
  have hf4 := blk_frozen HR3.out 4
  go_wp2_with fail
  refine bodyPost_ret (res_cell1 rfl _ _ (w.heap.size + 1) 24 #[.int .u64 (bitted yes a), .int .u64 b, .int .u64 c, .int .u64 d, .int .u64 e] _ rfl (blk_set (blk_set (blk_set (blk_set (blk_set HR3.out 0 _) 1 _) 2 _) 3 _) 4 _) Try.underlying24 rfl (by kernel_rfl)) rfl ?_
  exact ⟨rfl, bel_set (bel_set (bel_set (bel_set (bel_set HB3.out (Nat.le_succ _) _) (Nat.le_succ _) _) (Nat.le_succ _) _) (Nat.le_succ _) _) (Nat.le_succ _) _⟩

set_option maxHeartbeats 1600000 in
/-- spec.FullyIndexed. -/
theorem specFull_calls (a b c d e : Nat) (w : World) (ha : a < 2 ^ 64) :
    Calls Try.prog 7 #[hdV a b c d e] w fun e' w' => e' = .returned (.bool (bitB a)) ∧ Below w.heap.size w w' := by
  have ho := bits_and_u64_nat a 128 ha (by decide)
  rw [show ((128 : Nat) : Int) = 128 from rfl] at ho
  unfold bitB
  generalize a &&& 128 = y at *
  have hb : (((y : Int)) != 0) = (y != 0) := by
    by_cases h : y = 0
    · subst h; rfl
    · rw [bne, bne, beq_eq_false_iff_ne.2 (by omega), beq_eq_false_iff_ne.2 h]
  clear ha
  unfold hdV
  go_enter Try.func7, Try.ntmps7
  go_wp2
  go_ret
  exact ⟨by first | rfl | exact congrArg (fun b => Ending.returned (.bool b)) hb, bel_alloc (Below.refl _ _) _⟩

set_option maxHeartbeats 1600000 in
set_option maxRecDepth 100000 in
/-- spec.WithFullyIndexed. -/
theorem specSet_calls (a b c d e : Nat) (yes : Bool) (w : World) (ha : a < 2 ^ 64) :
    Calls Try.prog 8 #[hdV a b c d e, .bool yes] w fun e' w' => e' = .returned (hdV (bitted yes a) b c d e) ∧ Below w.heap.size w w' := by
  have h1 := andNot_nat a ha
  have h2 := bits_or_u64_nat (a &&& but8) 128 (clr_lt ha) (by decide)
  rw [show ((128 : Nat) : Int) = 128 from rfl, clr_set ha] at h2
  have hbt : bitted true a = a ||| 128 := rfl
  have hbf : bitted false a = a &&& but8 := rfl
  cases yes with
  | true =>
    rw [hbt]
    generalize a ||| 128 = y at *
    generalize a &&& but8 = z at *
    clear ha hbt hbf
    unfold hdV
    go_enter Try.func8, Try.ntmps8
    go_wp2
    exact bodyPost_ret (v := hdV y b c d e) (by simp [results, Try.results8, go_sem]) rfl ⟨rfl, bel_alloc (bel_alloc (Below.refl _ _) _) _⟩
  | false =>
    rw [hbf]
    generalize a ||| 128 = y at *
    generalize a &&& but8 = z at *
    clear ha hbt hbf
    unfold hdV
    go_enter Try.func8, Try.ntmps8
    go_wp2
    exact bodyPost_ret (v := hdV z b c d e) (by simp [results, Try.results8, go_sem]) rfl ⟨rfl, bel_alloc (bel_alloc (Below.refl _ _) _) _⟩

end Go.Proofs.Ytdppnlomhlnbkaa
