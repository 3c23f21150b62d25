/- The walk of the law FnC2Padding. -/
import Derived.Test.YtpagaagghpopiaaHead
import Derived.Test.YtpagaagghpopiaaGrow
namespace Go.Proofs.Ytpagaagghpopiaa
open Go.RowKit

/-- The five cells of a header in block g. -/
def Hd5 (w : World) (g : Nat) (a b c d e : Int) : Prop :=
  w.heap[g]? = some (.cells #[.int .u64 a, .int .u64 b, .int .u64 c, .int .u64 d, .int .u64 e] 24 (0, 0))
theorem Hd5.below {w w1 : World} {g : Nat} {a b c d e : Int} (h : Hd5 w g a b c d e) (hb : Below w.heap.size w w1) : Hd5 w1 g a b c d e := blk_keep h hb

/-- Five stores. -/
def put5 (w : World) (g : Nat) (a b c d e : Int) : World :=
  ((((w.setCell ⟨g, 0, none⟩ (.int .u64 a)).setCell ⟨g, 1, none⟩ (.int .u64 b)).setCell ⟨g, 2, none⟩ (.int .u64 c)).setCell ⟨g, 3, none⟩ (.int .u64 d)).setCell ⟨g, 4, none⟩ (.int .u64 e)
theorem hd5_put {w : World} {g : Nat} {a b c d e a' b' c' d' e' : Int} (h : Hd5 w g a b c d e) : Hd5 (put5 w g a' b' c' d' e') g a' b' c' d' e' := by
  have h1 := blk_set (blk_set (blk_set (blk_set (blk_set h 0 (.int .u64 a')) 1 (.int .u64 b')) 2 (.int .u64 c')) 3 (.int .u64 d')) 4 (.int .u64 e')
  exact h1
theorem hd5_far {w : World} {g g' : Nat} {a b c d e a' b' c' d' e' : Int} (h : Hd5 w g a b c d e) (hne : g ≠ g') : Hd5 (put5 w g' a' b' c' d' e') g a b c d e :=
  blk_far (blk_far (blk_far (blk_far (blk_far h hne _) hne _) hne _) hne _) hne _
theorem put5_bel {w W : World} (h : Below w.heap.size w W) {g : Nat} (hg : w.heap.size ≤ g) {a b c d e : Int} : Below w.heap.size w (put5 W g a b c d e) :=
  bel_set (bel_set (bel_set (bel_set (bel_set h hg _) hg _) hg _) hg _) hg _
theorem hd5_lt {w : World} {g : Nat} {a b c d e : Int} (h : Hd5 w g a b c d e) : g < w.heap.size := (Array.getElem?_eq_some_iff.1 h).1
theorem put5_size (w : World) (g : Nat) (a b c d e : Int) : (put5 w g a b c d e).heap.size = w.heap.size := by
  simp [put5, World.setCell]

/-- What the operations of 'a, b := C2Pad(h, data, 0), C2Pad(h, 0, index)' leave. -/
def padR (n m k : Nat) (B : Nat) (i : Nat) (v : Value) (w : World) : Prop :=
  match i with
  | 0 => v = hdV 0 0 51 n (51 + n)
  | 1 => v = .int .u64 m
  | 2 => v = hdV 0 0 (51 + m) n (51 + n + m + 0)
  | 3 => v = hdV 0 0 51 n (51 + n)
  | 4 => v = .int .u64 k
  | 5 => v = hdV 0 0 (51 + 0) n (51 + n + 0 + k)
  | 6 => ∃ g, v = .pointer (some ⟨g, 0, none⟩) ∧ B ≤ g ∧ Hd5 w g 0 0 0 0 0
  | 7 => ∃ g, v = .pointer (some ⟨g, 0, none⟩) ∧ B ≤ g ∧ Hd5 w g 0 0 0 0 0
  | _ => True
theorem padR_below (n m k B i : Nat) (v : Value) (w w' : World) (h : padR n m k B i v w) (hb : Below w.heap.size w w') : padR n m k B i v w' := by
  unfold padR at *
  split at h <;> first | exact h | (obtain ⟨g, e, hg, hh⟩ := h; exact ⟨g, e, hg, hh.below hb⟩)
def padD (i j : Nat) (v u : Value) : Prop := (i = 6 ∧ j = 7 ∨ i = 7 ∧ j = 6) → v ≠ u

set_option maxHeartbeats 4000000 in
set_option maxRecDepth 100000 in
theorem c2Pad_walk (n m k : Nat) (w : World) (hn : n < 18446744073709551616) (hm : m < 18446744073709551616) (hk : k < 18446744073709551616) :
    Calls Try.prog 3 #[.int .u64 n, .int .u64 m, .int .u64 k] w fun e w' => e = .returned (.bool true) ∧ Below w.heap.size w w' := by
  by_cases h1 : n < 1152921504606846976
  · by_cases h2 : m < 1152921504606846976
    · by_cases h3 : k < 1152921504606846976
      · have HN := Kp.mk (fun w => c2New_calls n w (by omega) (by omega))
        have q1 : decide ((1152921504606846976 : Int) ≤ n) = false := decide_eq_false (by omega)
        have q2 : decide ((1152921504606846976 : Int) ≤ m) = false := decide_eq_false (by omega)
        have q3 : decide ((1152921504606846976 : Int) ≤ k) = false := decide_eq_false (by omega)
        go_enter Try.func3, Try.ntmps3
        go_wp2_with fail
        refine (HN.out _).mono ?_
        rintro e w1 ⟨rfl, hb⟩
        have HB := Kp.mk hb
        clear hb
        go_wp2_with fail
        generalize hW : w1.alloc _ = W
        have HBW := Kp.mk (show Below w.heap.size w W by rw [← hW]; exact bel_alloc HB.out _)
        have HC : Hd5 W w1.heap.size 0 0 51 n (51 + n) := by
          rw [← hW]; simp [Hd5, World.alloc, -World.alloc_eq]
        generalize w1.heap.size = g7 at *
        have HP1 := Kp.mk (fun w => c2Pad_calls 0 0 51 n (51 + n) m 0 w (by omega) (by omega) (by omega) (by omega) (by omega) (by omega))
        have HP2 := Kp.mk (fun w => c2Pad_calls 0 0 51 n (51 + n) 0 k w (by omega) (by omega) (by omega) (by omega) (by omega) (by omega))
        refine wp_region_grow (by kernel_rfl) 8 (by decide) ?_ (by kernel_rfl) (padR n m k W.heap.size) padD (padR_below n m k _) ?_ ?_
        · intro i j d hi hj h1 h2
          rcases i with _ | _ | _ | _ | _ | _ | _ | _ | i <;> first | omega | (
            rcases j with _ | _ | _ | _ | _ | _ | _ | _ | j <;> first | omega | rfl | (have := (h1.trans h2.symm : some _ = some _); cases this))
        · intro i hi o ho vs w2 hb hpre
          rcases i with _ | _ | _ | _ | _ | _ | _ | _ | i
          · obtain rfl := Option.some.inj ho
            have hc := Hd5.below HC (bel_then (bel_drew (Below.refl _ _)) hb)
            have c0 := blk_cell hc 0
            have c1 := blk_cell hc 1
            have c2 := blk_cell hc 2
            have c3 := blk_cell hc 3
            have c4 := blk_cell hc 4
            simp only [canon, List.range, List.range.loop, List.foldl]
            go_simp
            exact ⟨rfl, Below.refl _ _, fun j _ _ hp => by omega⟩
          · obtain rfl := Option.some.inj ho
            simp only [canon, List.range, List.range.loop, List.foldl]
            go_simp
            exact ⟨rfl, Below.refl _ _, fun j _ _ hp => by omega⟩
          · obtain rfl := Option.some.inj ho
            have e0 : vs 0 = _ := hpre 0 (by omega) rfl
            have e1 : vs 1 = _ := hpre 1 (by omega) rfl
            simp only [canon, List.range, List.range.loop, List.foldl]
            go_simp
            refine (HP1.out w2).mono ?_
            rintro e w3 ⟨rfl, hb3⟩
            exact ⟨rfl, hb3, fun j _ _ hp => by omega⟩
          · obtain rfl := Option.some.inj ho
            have hc := Hd5.below HC (bel_then (bel_drew (Below.refl _ _)) hb)
            have c0 := blk_cell hc 0
            have c1 := blk_cell hc 1
            have c2 := blk_cell hc 2
            have c3 := blk_cell hc 3
            have c4 := blk_cell hc 4
            simp only [canon, List.range, List.range.loop, List.foldl]
            go_simp
            exact ⟨rfl, Below.refl _ _, fun j _ _ hp => by omega⟩
          · obtain rfl := Option.some.inj ho
            simp only [canon, List.range, List.range.loop, List.foldl]
            go_simp
            exact ⟨rfl, Below.refl _ _, fun j _ _ hp => by omega⟩
          · obtain rfl := Option.some.inj ho
            have e3 : vs 3 = _ := hpre 3 (by omega) rfl
            have e4 : vs 4 = _ := hpre 4 (by omega) rfl
            simp only [canon, List.range, List.range.loop, List.foldl]
            go_simp
            refine (HP2.out w2).mono ?_
            rintro e w3 ⟨rfl, hb3⟩
            exact ⟨rfl, hb3, fun j _ _ hp => by omega⟩
          · obtain rfl := Option.some.inj ho
            simp only [canon, List.range, List.range.loop, List.foldl]
            go_simp
            refine ⟨⟨_, rfl, ?_, by simp [Hd5, World.alloc, -World.alloc_eq]⟩, bel_alloc (Below.refl _ _) _, fun j _ hp hne => ?_⟩
            · have := hb.size; simpa using this
            · obtain rfl : j = 7 := by omega
              obtain ⟨g, e, _, hh⟩ := hp
              rw [e]; intro hq; cases hq
              exact Nat.lt_irrefl _ (hd5_lt hh)
          · obtain rfl := Option.some.inj ho
            simp only [canon, List.range, List.range.loop, List.foldl]
            go_simp
            refine ⟨⟨_, rfl, ?_, by simp [Hd5, World.alloc, -World.alloc_eq]⟩, bel_alloc (Below.refl _ _) _, fun j _ hp hne => ?_⟩
            · have := hb.size; simpa using this
            · obtain rfl : j = 6 := by omega
              obtain ⟨g, e, _, hh⟩ := hp
              rw [e]; intro hq; cases hq
              exact Nat.lt_irrefl _ (hd5_lt hh)
          · omega
        · intro vs w2 hb hr hd
          have e2 : vs 2 = _ := hr 2 (by omega)
          have e5 : vs 5 = _ := hr 5 (by omega)
          obtain ⟨g8, e6, h8, hh8⟩ := hr 6 (by omega)
          obtain ⟨g9, e7, h9, hh9⟩ := hr 7 (by omega)
          have hne : g8 ≠ g9 := by
            intro hq
            rcases hd 6 7 (by omega) (by omega) (by omega) with h | h
            · exact h (.inl ⟨rfl, rfl⟩) (by rw [e6, e7, hq])
            · exact h (.inr ⟨rfl, rfl⟩) (by rw [e6, e7, hq])
          have hc := Hd5.below HC (bel_then (bel_drew (Below.refl _ _)) hb)
          have h7 : g7 < W.heap.size := hd5_lt HC
          have c0 := blk_cell hh8 0
          have c1 := blk_cell hh8 1
          have c2 := blk_cell hh8 2
          have c3 := blk_cell hh8 3
          have c4 := blk_cell hh8 4
          have f0 := blk_frozen hh8 0
          have f1 := blk_frozen hh8 1
          have f2 := blk_frozen hh8 2
          have f3 := blk_frozen hh8 3
          have f4 := blk_frozen hh8 4
          simp only [canon, List.range, List.range.loop, List.foldl]
          refine wpAny_last 8 (by kernel_rfl) ?_
          refine wpOp_go rfl rfl ?_
          go_simp
          generalize hw3 : (((((w2.setCell _ _).setCell _ _).setCell _ _).setCell _ _).setCell _ _) = w3
          have k8 : Hd5 w3 g8 0 0 (51 + m) n (51 + n + m) := by rw [← hw3]; exact hd5_put hh8
          have k9 : Hd5 w3 g9 0 0 0 0 0 := by rw [← hw3]; exact hd5_far hh9 (fun h => hne h.symm)
          have k7 : Hd5 w3 g7 0 0 51 n (51 + n) := by rw [← hw3]; exact hd5_far hc (by omega)
          have HB3 := Kp.mk (show Below W.heap.size W w3 by rw [← hw3]; exact put5_bel (bel_then (bel_drew (Below.refl _ _)) hb) h8)
          clear hw3 c0 c1 c2 c3 c4 f0 f1 f2 f3 f4 hh8 hh9 hc hb hr hd e6 e7
          have c0 := blk_cell k9 0
          have c1 := blk_cell k9 1
          have c2 := blk_cell k9 2
          have c3 := blk_cell k9 3
          have c4 := blk_cell k9 4
          have f0 := blk_frozen k9 0
          have f1 := blk_frozen k9 1
          have f2 := blk_frozen k9 2
          have f3 := blk_frozen k9 3
          have f4 := blk_frozen k9 4
          refine wpAny_last 9 (by kernel_rfl) ?_
          refine wpOp_go rfl rfl ?_
          go_simp
          generalize hw4 : (((((w3.setCell _ _).setCell _ _).setCell _ _).setCell _ _).setCell _ _) = w4
          have l8 : Hd5 w4 g8 0 0 (51 + m) n (51 + n + m) := by rw [← hw4]; exact hd5_far k8 hne
          have l9 : Hd5 w4 g9 0 0 51 n (51 + n + k) := by rw [← hw4]; exact hd5_put k9
          have l7 : Hd5 w4 g7 0 0 51 n (51 + n) := by rw [← hw4]; exact hd5_far k7 (by omega)
          have HB4 := Kp.mk (show Below W.heap.size W w4 by rw [← hw4]; exact put5_bel HB3.out h9)
          clear hw4 c0 c1 c2 c3 c4 f0 f1 f2 f3 f4 k7 k8 k9 HB3
          refine wpAny_none (by kernel_rfl) ?_ _
          go_wp2_with fail
          have HS8 := Kp.mk (fun w => newHead_calls n w (by omega) (by omega))
          have HA1 := Kp.mk (fun w => padded_calls 0 0 51 n (51 + n) m 0 w (by omega) (by omega) (by omega) (by omega) (by omega) (by omega))
          have HA2 := Kp.mk (fun w => padded_calls 0 0 51 n (51 + n) 0 k w (by omega) (by omega) (by omega) (by omega) (by omega) (by omega))
          have HA3 := Kp.mk (fun w => padded_calls 0 0 51 n (51 + n) m k w (by omega) (by omega) (by omega) (by omega) (by omega) (by omega))
          have HA4 := Kp.mk (fun w => c2Pad_calls 0 0 51 n (51 + n) m k w (by omega) (by omega) (by omega) (by omega) (by omega) (by omega))
          have HN1 : Kp (∀ w : World, Calls Try.prog 5 #[.int .u64 1] w fun e' w' => e' = .returned (.agg #[.int .u64 0, .int .u64 0, .int .u64 51, .int .u64 1, .int .u64 52]) ∧ Below w.heap.size w w') := ⟨fun w => c2New_calls 1 w (by omega) (by omega)⟩
          have hfield : ∀ w : World, (Instr.field 24 (.agg #[.int .u64 0, .int .u64 0, .int .u64 51, .int .u64 1, .int .u64 52]) 2).run Try.prog w = .ok (.int .u64 51) w := fun _ => by kernel_rfl
          have hs : Below W.heap.size W w4.drew ∧ w4.cell? ⟨g8, 0, none⟩ = some (.int .u64 0) ∧ w4.cell? ⟨g8, 1, none⟩ = some (.int .u64 0) ∧ w4.cell? ⟨g8, 2, none⟩ = some (.int .u64 (51 + m)) ∧ w4.cell? ⟨g8, 3, none⟩ = some (.int .u64 n) ∧ w4.cell? ⟨g8, 4, none⟩ = some (.int .u64 (51 + n + m)) ∧ w4.cell? ⟨g9, 0, none⟩ = some (.int .u64 0) ∧ w4.cell? ⟨g9, 1, none⟩ = some (.int .u64 0) ∧ w4.cell? ⟨g9, 2, none⟩ = some (.int .u64 51) ∧ w4.cell? ⟨g9, 3, none⟩ = some (.int .u64 n) ∧ w4.cell? ⟨g9, 4, none⟩ = some (.int .u64 (51 + n + k)) ∧ w4.cell? ⟨g7, 0, none⟩ = some (.int .u64 0) ∧ w4.cell? ⟨g7, 1, none⟩ = some (.int .u64 0) ∧ w4.cell? ⟨g7, 2, none⟩ = some (.int .u64 51) ∧ w4.cell? ⟨g7, 3, none⟩ = some (.int .u64 n) ∧ w4.cell? ⟨g7, 4, none⟩ = some (.int .u64 (51 + n)) := ⟨bel_drew HB4.out, blk_cell l8 0, blk_cell l8 1, blk_cell l8 2, blk_cell l8 3, blk_cell l8 4, blk_cell l9 0, blk_cell l9 1, blk_cell l9 2, blk_cell l9 3, blk_cell l9 4, blk_cell l7 0, blk_cell l7 1, blk_cell l7 2, blk_cell l7 3, blk_cell l7 4⟩
          clear l7 l8 l9 HP1 HP2 HN
          go_region_held3 (fun w' => Below W.heap.size W w' ∧ w'.cell? ⟨g8, 0, none⟩ = some (.int .u64 0) ∧ w'.cell? ⟨g8, 1, none⟩ = some (.int .u64 0) ∧ w'.cell? ⟨g8, 2, none⟩ = some (.int .u64 (51 + m)) ∧ w'.cell? ⟨g8, 3, none⟩ = some (.int .u64 n) ∧ w'.cell? ⟨g8, 4, none⟩ = some (.int .u64 (51 + n + m)) ∧ w'.cell? ⟨g9, 0, none⟩ = some (.int .u64 0) ∧ w'.cell? ⟨g9, 1, none⟩ = some (.int .u64 0) ∧ w'.cell? ⟨g9, 2, none⟩ = some (.int .u64 51) ∧ w'.cell? ⟨g9, 3, none⟩ = some (.int .u64 n) ∧ w'.cell? ⟨g9, 4, none⟩ = some (.int .u64 (51 + n + k)) ∧ w'.cell? ⟨g7, 0, none⟩ = some (.int .u64 0) ∧ w'.cell? ⟨g7, 1, none⟩ = some (.int .u64 0) ∧ w'.cell? ⟨g7, 2, none⟩ = some (.int .u64 51) ∧ w'.cell? ⟨g7, 3, none⟩ = some (.int .u64 n) ∧ w'.cell? ⟨g7, 4, none⟩ = some (.int .u64 (51 + n))) (first | exact hs | exact (And.imp (fun h => bel_then h hb) (And.imp (cell_bel hb) (And.imp (cell_bel hb) (And.imp (cell_bel hb) (And.imp (cell_bel hb) (And.imp (cell_bel hb) (And.imp (cell_bel hb) (And.imp (cell_bel hb) (And.imp (cell_bel hb) (And.imp (cell_bel hb) (And.imp (cell_bel hb) (And.imp (cell_bel hb) (And.imp (cell_bel hb) (And.imp (cell_bel hb) (And.imp (cell_bel hb) (cell_bel hb)))))))))))))))) (by assumption)) (first | (with_reducible refine (HS8.out _).mono ?_; rintro e w5 ⟨rfl, hb⟩) | (with_reducible refine (HA1.out _).mono ?_; rintro e w5 ⟨rfl, hb⟩) | (with_reducible refine (HA2.out _).mono ?_; rintro e w5 ⟨rfl, hb⟩) | (with_reducible refine (HA3.out _).mono ?_; rintro e w5 ⟨rfl, hb⟩) | (with_reducible refine (HA4.out _).mono ?_; rintro e w5 ⟨rfl, hb⟩) | (with_reducible refine (HN1.out _).mono ?_; rintro e w5 ⟨rfl, hb⟩))
          go_wp2
          go_ret
          have h5 := (by assumption : Below W.heap.size W w5 ∧ _)
          exact ⟨rfl, bel_then HBW.out h5.1⟩
      · have q1 : decide ((1152921504606846976 : Int) ≤ n) = false := decide_eq_false (by omega)
        have q2 : decide ((1152921504606846976 : Int) ≤ m) = false := decide_eq_false (by omega)
        have q3 : decide ((1152921504606846976 : Int) ≤ k) = true := decide_eq_true (by omega)
        go_enter Try.func3, Try.ntmps3
        go_wp2_with fail
        go_ret
        exact ⟨rfl, Below.refl _ _⟩
    · have q1 : decide ((1152921504606846976 : Int) ≤ n) = false := decide_eq_false (by omega)
      have q2 : decide ((1152921504606846976 : Int) ≤ m) = true := decide_eq_true (by omega)
      go_enter Try.func3, Try.ntmps3
      go_wp2_with fail
      go_ret
      exact ⟨rfl, Below.refl _ _⟩
  · have q1 : decide ((1152921504606846976 : Int) ≤ n) = true := decide_eq_true (by omega)
    go_enter Try.func3, Try.ntmps3
    go_wp2_with fail
    go_ret
    exact ⟨rfl, Below.refl _ _⟩

end Go.Proofs.Ytpagaagghpopiaa
