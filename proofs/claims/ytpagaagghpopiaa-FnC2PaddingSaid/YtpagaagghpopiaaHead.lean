/- The walks of the small functions about headers of version 2. -/
import Derived.Test.YtpagaagghpopiaaBase
namespace Go.Proofs.Ytpagaagghpopiaa
open Go.RowKit

/-- A header as a value, in impl's and spec's form, in car's form. -/
abbrev hdV (a b c d e : Int) : Value := .agg #[.int .u64 a, .int .u64 b, .int .u64 c, .int .u64 d, .int .u64 e]

set_option maxHeartbeats 800000 in
theorem headOut_calls (a b c d e : Int) (w : World) :
    Calls Try.prog 10 #[hdV a b c d e] w fun e' w' => e' = .returned (hdV a b c d e) ∧ Below w.heap.size w w' := by
  go_enter Try.func10, Try.ntmps10
  go_wp2
  exact bodyPost_ret (v := hdV a b c d e) (by simp [results, Try.results10, go_sem]) rfl ⟨rfl, bel_alloc (bel_alloc (Below.refl _ _) _) _⟩

set_option maxHeartbeats 800000 in
theorem headIn_calls (a b c d e : Int) (w : World) :
    Calls Try.prog 12 #[hdV a b c d e] w fun e' w' => e' = .returned (hdV a b c d e) ∧ Below w.heap.size w w' := by
  go_enter Try.func12, Try.ntmps12
  go_wp2
  exact bodyPost_ret (v := hdV a b c d e) (by simp [results, Try.results12, go_sem]) rfl ⟨rfl, bel_alloc (bel_alloc (Below.refl _ _) _) _⟩

set_option maxHeartbeats 800000 in
theorem newHeader_calls (n : Int) (w : World) (h0 : 0 ≤ n) (h1 : n < 4611686018427387904) :
    Calls Try.prog 11 #[.int .u64 n] w fun e' w' => e' = .returned (hdV 0 0 51 n (51 + n)) ∧ Below w.heap.size w w' := by
  go_enter Try.func11, Try.ntmps11
  go_wp2
  exact bodyPost_ret (v := hdV 0 0 51 n (51 + n)) (by simp [results, Try.results11, go_sem]) rfl ⟨rfl, bel_alloc (bel_alloc (Below.refl _ _) _) _⟩

set_option maxHeartbeats 800000 in
theorem dataPad_calls (a b c d e n : Int) (w : World) (h0 : 0 ≤ n) (h1 : n < 4611686018427387904) (h2 : 0 ≤ e) (h3 : e < 4611686018427387904) :
    Calls Try.prog 13 #[hdV a b c d e, .int .u64 n] w fun e' w' => e' = .returned (hdV a b (51 + n) d (e + n)) ∧ Below w.heap.size w w' := by
  go_enter Try.func13, Try.ntmps13
  go_wp2
  exact bodyPost_ret (v := hdV a b (51 + n) d (e + n)) (by simp [results, Try.results13, go_sem]) rfl ⟨rfl, bel_alloc (bel_alloc (Below.refl _ _) _) _⟩

set_option maxHeartbeats 800000 in
theorem indexPad_calls (a b c d e n : Int) (w : World) (h0 : 0 ≤ n) (h1 : n < 4611686018427387904) (h2 : 0 ≤ e) (h3 : e < 4611686018427387904) :
    Calls Try.prog 14 #[hdV a b c d e, .int .u64 n] w fun e' w' => e' = .returned (hdV a b c d (e + n)) ∧ Below w.heap.size w w' := by
  go_enter Try.func14, Try.ntmps14
  go_wp2
  exact bodyPost_ret (v := hdV a b c d (e + n)) (by simp [results, Try.results14, go_sem]) rfl ⟨rfl, bel_alloc (bel_alloc (Below.refl _ _) _) _⟩

set_option maxHeartbeats 800000 in
theorem padded_calls (a b c d e n m : Int) (w : World) (h0 : 0 ≤ n) (h1 : n < 2305843009213693952) (h2 : 0 ≤ e) (h3 : e < 4611686018427387904) (h4 : 0 ≤ m) (h5 : m < 2305843009213693952) :
    Calls Try.prog 7 #[hdV a b c d e, .int .u64 n, .int .u64 m] w fun e' w' => e' = .returned (hdV a b (51 + n) d (e + n + m)) ∧ Below w.heap.size w w' := by
  rw [show e + n + m = e + (n + m) by omega]
  go_enter Try.func7, Try.ntmps7
  go_wp2
  exact bodyPost_ret (v := hdV a b (51 + n) d (e + (n + m))) (by simp [results, Try.results7, go_sem]) rfl ⟨rfl, bel_alloc (bel_alloc (Below.refl _ _) _) _⟩

set_option maxHeartbeats 800000 in
theorem newHead_calls (n : Int) (w : World) (h0 : 0 ≤ n) (h1 : n < 4611686018427387904) :
    Calls Try.prog 8 #[.int .u64 n] w fun e' w' => e' = .returned (hdV 0 0 51 n (51 + n)) ∧ Below w.heap.size w w' := by
  go_enter Try.func8, Try.ntmps8
  go_wp2
  exact bodyPost_ret (v := hdV 0 0 51 n (51 + n)) (by simp [results, Try.results8, go_sem]) rfl ⟨rfl, bel_alloc (Below.refl _ _) _⟩

theorem set5 {w W : World} (h : Below w.heap.size w W) {u0 u1 u2 u3 u4 : Value} :
    Below w.heap.size w (((((W.setCell ⟨w.heap.size, 0, none⟩ u0).setCell ⟨w.heap.size, 1, none⟩ u1).setCell ⟨w.heap.size, 2, none⟩ u2).setCell ⟨w.heap.size, 3, none⟩ u3).setCell ⟨w.heap.size, 4, none⟩ u4) :=
  bel_set (bel_set (bel_set (bel_set (bel_set h (Nat.le_refl _) _) (Nat.le_refl _) _) (Nat.le_refl _) _) (Nat.le_refl _) _) (Nat.le_refl _) _
theorem set5' {w W : World} (h : Below w.heap.size w W) {u0 u1 u2 u3 u4 : Value} :
    Below w.heap.size w (((((W.setCell ⟨w.heap.size + 1, 0, none⟩ u0).setCell ⟨w.heap.size + 1, 1, none⟩ u1).setCell ⟨w.heap.size + 1, 2, none⟩ u2).setCell ⟨w.heap.size + 1, 3, none⟩ u3).setCell ⟨w.heap.size + 1, 4, none⟩ u4) :=
  bel_set (bel_set (bel_set (bel_set (bel_set h (Nat.le_succ _) _) (Nat.le_succ _) _) (Nat.le_succ _) _) (Nat.le_succ _) _) (Nat.le_succ _) _

set_option maxHeartbeats 800000 in
theorem c2New_calls (n : Int) (w : World) (h0 : 0 ≤ n) (h1 : n < 4611686018427387904) :
    Calls Try.prog 5 #[.int .u64 n] w fun e' w' => e' = .returned (hdV 0 0 51 n (51 + n)) ∧ Below w.heap.size w w' := by
  have H1 := Kp.mk (fun w => newHeader_calls n w h0 h1)
  have H2 := Kp.mk (fun w => headOut_calls 0 0 51 n (51 + n) w)
  go_enter Try.func5, Try.ntmps5
  go_wp2_with fail
  refine (H1.out _).mono ?_
  rintro e w1 ⟨rfl, hb⟩
  have HG := Kp.mk (blk_new hb)
  have HB := Kp.mk (bel_new hb)
  clear hb
  go_wp2_with fail
  refine (H2.out _).mono ?_
  rintro e w2 ⟨rfl, hb⟩
  have hg := blk_keep HG.out hb
  have HB2 := Kp.mk (bel_then HB.out hb)
  have c0 := blk_cell hg 0
  have c1 := blk_cell hg 1
  have c2 := blk_cell hg 2
  have c3 := blk_cell hg 3
  have c4 := blk_cell hg 4
  have f0 := blk_frozen hg 0
  have f1 := blk_frozen hg 1
  have f2 := blk_frozen hg 2
  have f3 := blk_frozen hg 3
  have f4 := blk_frozen hg 4
  clear HG HB hb hg H1 H2
  go_wp2_with fail
  exact bodyPost_ret (v := hdV 0 0 51 n (51 + n)) (by simp [results, Try.results5, go_sem, c0, c1, c2, c3, c4]) rfl ⟨rfl, set5 HB2.out⟩

set_option maxHeartbeats 1600000 in
theorem c2Pad_calls (a b c d e n m : Int) (w : World) (h0 : 0 ≤ n) (h1 : n < 1152921504606846976) (h2 : 0 ≤ e) (h3 : e < 2305843009213693952) (h4 : 0 ≤ m) (h5 : m < 1152921504606846976) :
    Calls Try.prog 6 #[hdV a b c d e, .int .u64 n, .int .u64 m] w fun e' w' => e' = .returned (hdV a b (51 + n) d (e + n + m)) ∧ Below w.heap.size w w' := by
  have H1 := Kp.mk (fun w => headIn_calls a b c d e w)
  have H2 := Kp.mk (fun w => dataPad_calls a b c d e n w (by omega) (by omega) (by omega) (by omega))
  have H3 := Kp.mk (fun w => indexPad_calls a b (51 + n) d (e + n) m w (by omega) (by omega) (by omega) (by omega))
  have H4 := Kp.mk (fun w => headOut_calls a b (51 + n) d (e + n + m) w)
  go_enter Try.func6, Try.ntmps6
  go_wp2_with fail
  refine (H1.out _).mono ?_
  rintro e1 w1 ⟨rfl, hb⟩
  have HG := Kp.mk (blk_new2 hb)
  have HB := Kp.mk (bel_new2 hb)
  clear hb
  go_wp2_with fail
  refine (H2.out _).mono ?_
  rintro e2 w2 ⟨rfl, hb⟩
  have HG2 := Kp.mk (blk_keep HG.out hb)
  have HB2 := Kp.mk (bel_then HB.out hb)
  clear hb HG HB
  go_wp2_with fail
  refine (H3.out _).mono ?_
  rintro e3 w3 ⟨rfl, hb⟩
  have HG3 := Kp.mk (blk_keep HG2.out hb)
  have HB3 := Kp.mk (bel_then HB2.out hb)
  clear hb HG2 HB2
  go_wp2_with fail
  refine (H4.out _).mono ?_
  rintro e4 w4 ⟨rfl, hb⟩
  have hg := blk_keep HG3.out hb
  have HB4 := Kp.mk (bel_then HB3.out hb)
  have c0 := blk_cell hg 0
  have c1 := blk_cell hg 1
  have c2 := blk_cell hg 2
  have c3 := blk_cell hg 3
  have c4 := blk_cell hg 4
  have f0 := blk_frozen hg 0
  have f1 := blk_frozen hg 1
  have f2 := blk_frozen hg 2
  have f3 := blk_frozen hg 3
  have f4 := blk_frozen hg 4
  clear HG3 HB3 hb hg H1 H2 H3 H4
  go_wp2_with fail
  exact bodyPost_ret (v := hdV a b (51 + n) d (e + n + m)) (by simp [results, Try.results6, go_sem, c0, c1, c2, c3, c4]) rfl ⟨rfl, set5' HB4.out⟩

end Go.Proofs.Ytpagaagghpopiaa
