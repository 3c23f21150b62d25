/- The walk of spec.ReadLong. -/
import Derived.Test.YtdppnlomhlnbkaaDoorSpecUv
import Derived.Test.YtdppnlomhlnbkaaDoorUvLaws
import Derived.Test.YtdppnlomhlnbkaaDoorLdA
namespace Go.Proofs.YtdppnlomhlnbkaaDoor
open Go.RowKit

/-- What spec.ReadLong hands back. -/
def SlEnd (r : LongR) (e : Ending) : Prop :=
  match r with
  | .ended n => e = .returned (.agg #[.string ⟨#[]⟩, .int .i64 n, .int .u8 1, .bool false])
  | .left => e = .returned (.agg #[.string ⟨#[]⟩, .int .i64 0, .int .u8 0, .bool true])
  | .failed => e = .returned (.agg #[.string ⟨#[]⟩, .int .i64 0, .int .u8 2, .bool false])
  | .read d N => e = .returned (.agg #[.string (strB d), .int .i64 N, .int .u8 0, .bool false])

theorem str_ne {s : ByteArray} (h : 0 < s.size) : s.toList.isEmpty = false := by
  rw [← strB_bl s, strB_toList]
  cases hb : bl s with
  | nil => have := bl_length s; rw [hb] at this; simp at this; omega
  | cons => rfl

set_option maxHeartbeats 4000000 in
set_option maxRecDepth 100000 in
/-- spec.ReadLong. -/
theorem specLong_calls (s : ByteArray) (ze : Bool) (most : Nat) (w : World) (hs : s.size ≤ 2147483647) (hm : most ≤ 33554432) :
    Calls Tryd.prog 17 #[.string s, .bool ze, .int .u64 most] w fun e w' => SlEnd (longRead (bl s) ze most) e ∧ Below w.heap.size w w' := by
  have hbl := bl_length s
  by_cases h0 : s.size = 0
  · have hnil : bl s = [] := List.eq_nil_of_length_eq_zero (by omega)
    have hse : s = ⟨#[]⟩ := by rw [← strB_bl s, hnil]; rfl
    have HN := Kp.mk (show longRead (bl s) ze most = .ended 0 by rw [hnil]; rfl)
    rw [hse] at *
    clear hbl h0 hnil hse hs hm
    go_enter Tryd.func17, Tryd.ntmps17
    go_wp2
    refine bodyPost_ret (res_cell1 rfl _ _ w.heap.size 39 #[.string ⟨#[]⟩, .int .i64 0, .int .u8 1, .bool false] _ rfl (by simp [World.alloc, -World.alloc_eq]) Tryd.underlying39 rfl (by kernel_rfl)) rfl ?_
    exact ⟨by rw [HN.out]; rfl, bel_alloc (Below.refl _ _) _⟩
  have hse := str_ne (s := s) (by omega)
  have hne : bl s ≠ [] := fun h => by rw [h] at hbl; simp at hbl; omega
  have H1 := Kp.mk (fun w => specUv_calls s w (by omega))
  have HX := Kp.mk (And.intro hs (And.intro hm (And.intro hne hbl)))
  clear hs hm hne hbl
  go_enter Tryd.func17, Tryd.ntmps17
  go_wp2_with fail
  generalize hW0 : w.alloc _ = W0
  have HR0 : Kp (W0.heap[w.heap.size]? = some (.cells #[.string ⟨#[]⟩, .int .i64 0, .int .u8 0, .bool false] 39 (0, 0))) := ⟨by rw [← hW0]; exact blk_new (Below.refl _ _)⟩
  have HB0 : Kp (Below w.heap.size w W0) := ⟨by rw [← hW0]; exact bel_alloc (Below.refl _ _) _⟩
  clear hW0 hse
  refine (H1.out _).mono ?_
  rintro e w' ⟨hu, rfl⟩
  unfold SvEnd at hu
  clear H1
  cases hrd : uvRead (bl s) with
  | none =>
    rw [hrd] at hu
    obtain ⟨y, hy, rfl⟩ := hu
    have HN := Kp.mk (long_bad (ze := ze) (most := most) HX.out.2.2.1 hrd)
    have hy2 : (!y == 0) = true := by rw [hy]; rfl
    have hy3 : (y != 0) = true := hy2
    clear hrd
    have hb0 := blk_cell HR0.out 0
    have hf0 := blk_frozen HR0.out 0
    have hb1 := blk_cell HR0.out 1
    have hf1 := blk_frozen HR0.out 1
    have hb2 := blk_cell HR0.out 2
    have hf2 := blk_frozen HR0.out 2
    have hb3 := blk_cell HR0.out 3
    have hf3 := blk_frozen HR0.out 3
    go_wp2_with fail
    refine bodyPost_ret (res_cell1 rfl _ _ w.heap.size 39 #[.string ⟨#[]⟩, .int .i64 0, .int .u8 2, .bool false] _ rfl (blk_set (blk_set (blk_set (blk_set HR0.out 0 _) 1 _) 2 _) 3 _) Tryd.underlying39 rfl (by kernel_rfl)) rfl ?_
    refine ⟨by rw [HN.out]; rfl, ?_⟩
    exact bel_set (bel_set (bel_set (bel_set HB0.out (Nat.le_refl _) _) (Nat.le_refl _) _) (Nat.le_refl _) _) (Nat.le_refl _) _
  | some p =>
    obtain ⟨x, k⟩ := p
    rw [hrd] at hu
    obtain rfl : e = _ := hu
    have hk := uvRead_some hrd
    have HD := Kp.mk hrd
    by_cases hmx : most < x
    · have HN := Kp.mk (long_much (ze := ze) HX.out.2.2.1 hrd hmx)
      clear hrd hk
      have hb0 := blk_cell HR0.out 0
      have hf0 := blk_frozen HR0.out 0
      have hb1 := blk_cell HR0.out 1
      have hf1 := blk_frozen HR0.out 1
      have hb2 := blk_cell HR0.out 2
      have hf2 := blk_frozen HR0.out 2
      have hb3 := blk_cell HR0.out 3
      have hf3 := blk_frozen HR0.out 3
      go_wp2_with fail
      refine bodyPost_ret (res_cell1 rfl _ _ w.heap.size 39 #[.string ⟨#[]⟩, .int .i64 0, .int .u8 2, .bool false] _ rfl (blk_set (blk_set (blk_set (blk_set HR0.out 0 _) 1 _) 2 _) 3 _) Tryd.underlying39 rfl (by kernel_rfl)) rfl ?_
      refine ⟨by rw [HN.out]; rfl, ?_⟩
      exact bel_set (bel_set (bel_set (bel_set HB0.out (Nat.le_refl _) _) (Nat.le_refl _) _) (Nat.le_refl _) _) (Nat.le_refl _) _
    · by_cases hz : x = 0
      · subst hz
        cases ze with
        | true =>
          have HN := Kp.mk (long_zero (most := most) HX.out.2.2.1 hrd)
          clear hrd hk
          have hb0 := blk_cell HR0.out 0
          have hf0 := blk_frozen HR0.out 0
          have hb1 := blk_cell HR0.out 1
          have hf1 := blk_frozen HR0.out 1
          have hb2 := blk_cell HR0.out 2
          have hf2 := blk_frozen HR0.out 2
          have hb3 := blk_cell HR0.out 3
          have hf3 := blk_frozen HR0.out 3
          go_wp2_with fail
          refine bodyPost_ret (res_cell1 rfl _ _ w.heap.size 39 #[.string ⟨#[]⟩, .int .i64 k, .int .u8 1, .bool false] _ rfl (blk_set (blk_set (blk_set (blk_set HR0.out 0 _) 1 _) 2 _) 3 _) Tryd.underlying39 rfl (by kernel_rfl)) rfl ?_
          refine ⟨by rw [HN.out]; rfl, ?_⟩
          exact bel_set (bel_set (bel_set (bel_set HB0.out (Nat.le_refl _) _) (Nat.le_refl _) _) (Nat.le_refl _) _) (Nat.le_refl _) _
        | false =>
          have HN := Kp.mk (long_read (ze := false) HX.out.2.2.1 hrd hmx (fun h => by simp at h) (fun h => by omega) (by omega))
          have hk2 : k ≤ s.size := by have := HX.out.2.2.2; omega
          have hs31 := HX.out.1
          clear hrd hk
          have hb0 := blk_cell HR0.out 0
          have hf0 := blk_frozen HR0.out 0
          have hb1 := blk_cell HR0.out 1
          have hf1 := blk_frozen HR0.out 1
          have hb2 := blk_cell HR0.out 2
          have hf2 := blk_frozen HR0.out 2
          have hb3 := blk_cell HR0.out 3
          have hf3 := blk_frozen HR0.out 3
          go_wp2_with fail
          refine bodyPost_ret (res_cell1 rfl _ _ w.heap.size 39 #[.string ByteArray.empty, .int .i64 k, .int .u8 0, .bool false] _ rfl (blk_set (blk_set (blk_set (blk_set HR0.out 0 _) 1 _) 2 _) 3 _) Tryd.underlying39 rfl (by kernel_rfl)) rfl ?_
          refine ⟨by rw [HN.out, List.take_zero]; rfl, ?_⟩
          exact bel_set (bel_set (bel_set (bel_set HB0.out (Nat.le_refl _) _) (Nat.le_refl _) _) (Nat.le_refl _) _) (Nat.le_refl _) _
      · have hx1 : ((x : Int) == 0) = false := beq_eq_false_iff_ne.2 (by omega)
        have hx2 : 0 < x := by omega
        have hl := HX.out.2.2.2
        by_cases hkl : k = s.size
        · have HN := Kp.mk (long_left (ze := ze) HX.out.2.2.1 hrd hmx (fun h => hz h.2) ⟨hx2, by omega⟩)
          subst hkl
          clear hrd hk hz
          cases ze with
          | true =>
            have hb0 := blk_cell HR0.out 0
            have hf0 := blk_frozen HR0.out 0
            have hb1 := blk_cell HR0.out 1
            have hf1 := blk_frozen HR0.out 1
            have hb2 := blk_cell HR0.out 2
            have hf2 := blk_frozen HR0.out 2
            have hb3 := blk_cell HR0.out 3
            have hf3 := blk_frozen HR0.out 3
            go_wp2_with fail
            refine bodyPost_ret (res_cell1 rfl _ _ w.heap.size 39 #[.string ⟨#[]⟩, .int .i64 0, .int .u8 0, .bool true] _ rfl (blk_set (blk_set (blk_set (blk_set HR0.out 0 _) 1 _) 2 _) 3 _) Tryd.underlying39 rfl (by kernel_rfl)) rfl ?_
            refine ⟨by rw [HN.out]; rfl, ?_⟩
            exact bel_set (bel_set (bel_set (bel_set HB0.out (Nat.le_refl _) _) (Nat.le_refl _) _) (Nat.le_refl _) _) (Nat.le_refl _) _
          | false =>
            have hb0 := blk_cell HR0.out 0
            have hf0 := blk_frozen HR0.out 0
            have hb1 := blk_cell HR0.out 1
            have hf1 := blk_frozen HR0.out 1
            have hb2 := blk_cell HR0.out 2
            have hf2 := blk_frozen HR0.out 2
            have hb3 := blk_cell HR0.out 3
            have hf3 := blk_frozen HR0.out 3
            go_wp2_with fail
            refine bodyPost_ret (res_cell1 rfl _ _ w.heap.size 39 #[.string ⟨#[]⟩, .int .i64 0, .int .u8 0, .bool true] _ rfl (blk_set (blk_set (blk_set (blk_set HR0.out 0 _) 1 _) 2 _) 3 _) Tryd.underlying39 rfl (by kernel_rfl)) rfl ?_
            refine ⟨by rw [HN.out]; rfl, ?_⟩
            exact bel_set (bel_set (bel_set (bel_set HB0.out (Nat.le_refl _) _) (Nat.le_refl _) _) (Nat.le_refl _) _) (Nat.le_refl _) _
        · have hk1 : ((k : Int) == (s.size : Int)) = false := beq_eq_false_iff_ne.2 (by omega)
          by_cases hls : s.size - k < x
          · have HN := Kp.mk (long_less (ze := ze) HX.out.2.2.1 hrd hmx (fun h => hz h.2) (fun h => hkl (by omega)) (by omega))
            have hs31 := HX.out.1
            have hk3 : k ≤ s.size := by omega
            have q1 : decide ((s.size : Int) - (k : Int) < (x : Int)) = true := decide_eq_true (by omega)
            clear hrd hk hz hl
            cases ze with
            | true =>
              have hb0 := blk_cell HR0.out 0
              have hf0 := blk_frozen HR0.out 0
              have hb1 := blk_cell HR0.out 1
              have hf1 := blk_frozen HR0.out 1
              have hb2 := blk_cell HR0.out 2
              have hf2 := blk_frozen HR0.out 2
              have hb3 := blk_cell HR0.out 3
              have hf3 := blk_frozen HR0.out 3
              go_wp2_with fail
              refine bodyPost_ret (res_cell1 rfl _ _ w.heap.size 39 #[.string ⟨#[]⟩, .int .i64 0, .int .u8 2, .bool false] _ rfl (blk_set (blk_set (blk_set (blk_set HR0.out 0 _) 1 _) 2 _) 3 _) Tryd.underlying39 rfl (by kernel_rfl)) rfl ?_
              refine ⟨by rw [HN.out]; rfl, ?_⟩
              exact bel_set (bel_set (bel_set (bel_set HB0.out (Nat.le_refl _) _) (Nat.le_refl _) _) (Nat.le_refl _) _) (Nat.le_refl _) _
            | false =>
              have hb0 := blk_cell HR0.out 0
              have hf0 := blk_frozen HR0.out 0
              have hb1 := blk_cell HR0.out 1
              have hf1 := blk_frozen HR0.out 1
              have hb2 := blk_cell HR0.out 2
              have hf2 := blk_frozen HR0.out 2
              have hb3 := blk_cell HR0.out 3
              have hf3 := blk_frozen HR0.out 3
              go_wp2_with fail
              refine bodyPost_ret (res_cell1 rfl _ _ w.heap.size 39 #[.string ⟨#[]⟩, .int .i64 0, .int .u8 2, .bool false] _ rfl (blk_set (blk_set (blk_set (blk_set HR0.out 0 _) 1 _) 2 _) 3 _) Tryd.underlying39 rfl (by kernel_rfl)) rfl ?_
              refine ⟨by rw [HN.out]; rfl, ?_⟩
              exact bel_set (bel_set (bel_set (bel_set HB0.out (Nat.le_refl _) _) (Nat.le_refl _) _) (Nat.le_refl _) _) (Nat.le_refl _) _
          · have HN := Kp.mk (long_read (ze := ze) HX.out.2.2.1 hrd hmx (fun h => hz h.2) (fun h => hkl (by omega)) (by omega))
            have hs31 := HX.out.1
            have hk3 : k + x ≤ s.size := by omega
            have q1 : decide ((s.size : Int) - (k : Int) < (x : Int)) = false := decide_eq_false (by omega)
            clear hrd hk hz hl
            cases ze with
            | true =>
              have hb0 := blk_cell HR0.out 0
              have hf0 := blk_frozen HR0.out 0
              have hb1 := blk_cell HR0.out 1
              have hf1 := blk_frozen HR0.out 1
              have hb2 := blk_cell HR0.out 2
              have hf2 := blk_frozen HR0.out 2
              have hb3 := blk_cell HR0.out 3
              have hf3 := blk_frozen HR0.out 3
              go_wp2_with fail
              refine bodyPost_ret (res_cell1 rfl _ _ w.heap.size 39 #[.string (s.extract k (k + x)), .int .i64 ((k : Int) + x), .int .u8 0, .bool false] _ rfl (blk_set (blk_set (blk_set (blk_set HR0.out 0 _) 1 _) 2 _) 3 _) Tryd.underlying39 rfl (by kernel_rfl)) rfl ?_
              refine ⟨by rw [HN.out, show ((k : Int) + x) = ((k + x : Nat) : Int) by omega, show s.extract k (k + x) = strB (((bl s).drop k).take x) by rw [← strB_bl (s.extract k (k + x)), bl_extract, List.drop_take, show k + x - k = x by omega]]; rfl, ?_⟩
              exact bel_set (bel_set (bel_set (bel_set HB0.out (Nat.le_refl _) _) (Nat.le_refl _) _) (Nat.le_refl _) _) (Nat.le_refl _) _
            | false =>
              have hb0 := blk_cell HR0.out 0
              have hf0 := blk_frozen HR0.out 0
              have hb1 := blk_cell HR0.out 1
              have hf1 := blk_frozen HR0.out 1
              have hb2 := blk_cell HR0.out 2
              have hf2 := blk_frozen HR0.out 2
              have hb3 := blk_cell HR0.out 3
              have hf3 := blk_frozen HR0.out 3
              go_wp2_with fail
              refine bodyPost_ret (res_cell1 rfl _ _ w.heap.size 39 #[.string (s.extract k (k + x)), .int .i64 ((k : Int) + x), .int .u8 0, .bool false] _ rfl (blk_set (blk_set (blk_set (blk_set HR0.out 0 _) 1 _) 2 _) 3 _) Tryd.underlying39 rfl (by kernel_rfl)) rfl ?_
              refine ⟨by rw [HN.out, show ((k : Int) + x) = ((k + x : Nat) : Int) by omega, show s.extract k (k + x) = strB (((bl s).drop k).take x) by rw [← strB_bl (s.extract k (k + x)), bl_extract, List.drop_take, show k + x - k = x by omega]]; rfl, ?_⟩
              exact bel_set (bel_set (bel_set (bel_set HB0.out (Nat.le_refl _) _) (Nat.le_refl _) _) (Nat.le_refl _) _) (Nat.le_refl _) _

end Go.Proofs.YtdppnlomhlnbkaaDoor
