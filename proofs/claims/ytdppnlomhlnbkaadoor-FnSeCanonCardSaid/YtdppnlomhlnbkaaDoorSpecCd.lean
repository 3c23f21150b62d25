/- The walk of the reference's reading of an identifier. -/
import Derived.Test.YtdppnlomhlnbkaaDoorCdA
namespace Go.Proofs.YtdppnlomhlnbkaaDoor
open Go.RowKit

theorem crEnd_some {bs : List UInt8} {v codec code N : Nat} {d : List UInt8} {n : Int} (h : cdRead bs = some (v, codec, code, d, N)) (hn : n = N) : CrEnd bs (.returned (.tuple #[.agg #[.int .u64 v, .int .u64 codec, .int .u64 code, .string (strB d)], .int .i64 n, .bool true])) := by
  subst hn; unfold CrEnd; rw [h]

set_option maxHeartbeats 4000000 in
set_option maxRecDepth 100000 in
theorem specCd_short (s : ByteArray) (w : World) (_HX : Kp (s.size ≤ 2147483647 ∧ (bl s).length = s.size)) (HN : Kp (cdRead (bl s) = none)) (h2 : 2 < s.size) (h34 : s.size < 34) (k0 : s[0].toNat = 18) (k1 : s[1].toNat = 32) :
    Calls Tryd.prog 9 #[.string s] w fun e w' => CrEnd (bl s) e ∧ Below w.heap.size w w' := by
  go_enter Tryd.func9, Tryd.ntmps9
  have hb := fun ob => blk_new (w := w) (o := ob) (Below.refl (w.alloc ob).heap.size (w.alloc ob))
  have hb0 := blk_cell (hb (.cells #[.int .u64 0, .int .u64 0, .int .u64 0, .string ⟨#[]⟩] 24)) 0
  clear hb hb0
  go_wp2_with fail
  refine bodyPost_ret (res_cell3 rfl _ _ w.heap.size 24 #[.int .u64 0, .int .u64 0, .int .u64 0, .string ⟨#[]⟩] _ rfl (by simp [World.alloc, -World.alloc_eq]) Tryd.underlying24 rfl (by kernel_rfl)) rfl ?_
  exact ⟨by unfold CrEnd; rw [HN.out]; rfl, bel_alloc (Below.refl _ _) _⟩

set_option maxHeartbeats 4000000 in
set_option maxRecDepth 100000 in
theorem specCd_zero (s : ByteArray) (w : World) (_HX : Kp (s.size ≤ 2147483647 ∧ (bl s).length = s.size)) (HN : Kp (cdRead (bl s) = some (0, 112, 18, ((bl s).drop 2).take 32, 34))) (h34 : 34 ≤ s.size) (k0 : s[0].toNat = 18) (k1 : s[1].toNat = 32) :
    Calls Tryd.prog 9 #[.string s] w fun e w' => CrEnd (bl s) e ∧ Below w.heap.size w w' := by
  go_enter Tryd.func9, Tryd.ntmps9
  go_wp2_with fail
  refine bodyPost_ret (res_cell3 rfl _ _ w.heap.size 24 #[.int .u64 0, .int .u64 112, .int .u64 18, .string (s.extract 2 34)] _ rfl (by simp [World.alloc, -World.alloc_eq]) Tryd.underlying24 rfl (by kernel_rfl)) rfl ?_
  refine ⟨?_, bel_alloc (Below.refl _ _) _⟩
  rw [show s.extract 2 34 = strB (((bl s).drop 2).take 32) by rw [← strB_bl (s.extract 2 34), bl_extract, List.drop_take]]
  exact crEnd_some HN.out rfl

set_option maxHeartbeats 4000000 in
set_option maxRecDepth 100000 in
theorem specCd_oneA (s : ByteArray) (w : World) (HX : Kp (s.size ≤ 2147483647 ∧ (bl s).length = s.size)) (HZ : Kp (¬ cdZero (bl s))) (h2 : s.size ≤ 2) :
    Calls Tryd.prog 9 #[.string s] w fun e w' => CrEnd (bl s) e ∧ Below w.heap.size w w' := by
  have hs31 := HX.out.1
  have H1 := Kp.mk (fun w => specUv_calls s w (by have := HX.out.1; omega))
  go_enter Tryd.func9, Tryd.ntmps9
  go_wp2_with fail
  generalize hW0 : w.alloc _ = W0
  have HR0 : Kp (W0.heap[w.heap.size]? = some (.cells #[.int .u64 0, .int .u64 0, .int .u64 0, .string ⟨#[]⟩] 24 (0, 0))) := ⟨by rw [← hW0]; exact blk_new (Below.refl _ _)⟩
  have HB0 : Kp (Below w.heap.size w W0) := ⟨by rw [← hW0]; exact bel_alloc (Below.refl _ _) _⟩
  clear hW0 h2
  refine (H1.out _).mono ?_
  rintro e w' ⟨hu, rfl⟩
  unfold SvEnd at hu
  clear H1
  cases hrd : uvRead (bl s) with
  | none =>
    rw [hrd] at hu
    obtain ⟨y, hy, rfl⟩ := hu
    have HN := Kp.mk (cd_none1 HZ.out hrd)
    have hy2 : (!y == 0) = true := by rw [hy]; rfl
    have hy3 : (y != 0) = true := hy2
    clear hrd
    have hb0 := blk_cell HR0.out 0
    have hf0 := blk_frozen HR0.out 0
    have hb1 := blk_cell HR0.out 1
    have hf1 := blk_frozen HR0.out 1
    have hb2 := blk_cell HR0.out 2
    have hf2 := blk_frozen HR0.out 2
    have hb3 := blk_cell HR0.out 3
    have hf3 := blk_frozen HR0.out 3
    go_wp2_with fail
    refine bodyPost_ret (res_cell3 rfl _ _ w.heap.size 24 #[.int .u64 0, .int .u64 0, .int .u64 0, .string ⟨#[]⟩] _ rfl (blk_set (blk_set (blk_set (blk_set HR0.out 0 _) 1 _) 2 _) 3 _) Tryd.underlying24 rfl (by kernel_rfl)) rfl ?_
    refine ⟨by unfold CrEnd; rw [HN.out]; rfl, ?_⟩
    exact bel_set (bel_set (bel_set (bel_set HB0.out (Nat.le_refl _) _) (Nat.le_refl _) _) (Nat.le_refl _) _) (Nat.le_refl _) _
  | some p =>
    obtain ⟨x, k⟩ := p
    rw [hrd] at hu
    obtain rfl : e = _ := hu
    by_cases hx : x = 1
    · subst hx
      have hk := uvRead_some hrd
      have hk2 : k ≤ s.size := by have := HX.out.2; omega
      have H2 := Kp.mk (fun w => specUv_calls (s.extract k s.size) w (by rw [ByteArray.size_extract]; have := HX.out.1; omega))
      rw [cut_bl] at H2
      have HD := Kp.mk hrd
      clear hrd hk
      go_wp2_with fail
      refine (H2.out _).mono ?_
      rintro e w' ⟨hu, rfl⟩
      unfold SvEnd at hu
      clear H2
      cases hrd2 : uvRead ((bl s).drop k) with
      | none =>
        rw [hrd2] at hu
        obtain ⟨y, hy, rfl⟩ := hu
        have HN := Kp.mk (cd_none3 HZ.out HD.out hrd2)
        have hy2 : (!y == 0) = true := by rw [hy]; rfl
        have hy3 : (y != 0) = true := hy2
        clear hrd2
        have hb0 := blk_cell HR0.out 0
        have hf0 := blk_frozen HR0.out 0
        have hb1 := blk_cell HR0.out 1
        have hf1 := blk_frozen HR0.out 1
        have hb2 := blk_cell HR0.out 2
        have hf2 := blk_frozen HR0.out 2
        have hb3 := blk_cell HR0.out 3
        have hf3 := blk_frozen HR0.out 3
        go_wp2_with fail
        refine bodyPost_ret (res_cell3 rfl _ _ w.heap.size 24 #[.int .u64 0, .int .u64 0, .int .u64 0, .string ⟨#[]⟩] _ rfl (blk_set (blk_set (blk_set (blk_set HR0.out 0 _) 1 _) 2 _) 3 _) Tryd.underlying24 rfl (by kernel_rfl)) rfl ?_
        refine ⟨by unfold CrEnd; rw [HN.out]; rfl, ?_⟩
        exact bel_set (bel_set (bel_set (bel_set HB0.out (Nat.le_refl _) _) (Nat.le_refl _) _) (Nat.le_refl _) _) (Nat.le_refl _) _
      | some p =>
        obtain ⟨codec, m⟩ := p
        rw [hrd2] at hu
        obtain rfl : e = _ := hu
        have hm := uvRead_some hrd2
        have hm2 : k + m ≤ s.size := by have := HX.out.2; have := hm.2.1; rw [List.length_drop] at this; omega
        have H3 := Kp.mk (fun w => specMh_calls (s.extract (k + m) s.size) w (by rw [ByteArray.size_extract]; have := HX.out.1; omega))
        rw [cut_bl] at H3
        have HD2 := Kp.mk hrd2
        clear hrd2 hm
        go_wp2_with fail
        refine (H3.out _).mono ?_
        rintro e w2 ⟨hu, hb⟩
        have HR2 := Kp.mk (blk_keep HR0.out hb)
        have HB2 := Kp.mk (bel_then HB0.out hb)
        unfold SmEnd at hu
        clear H3 hb
        cases hrd3 : mhRead ((bl s).drop (k + m)) with
        | none =>
          rw [hrd3] at hu
          simp only at hu
          subst hu
          have HN := Kp.mk (cd_none4 HZ.out HD.out HD2.out hrd3)
          clear hrd3
          have hb0 := blk_cell HR2.out 0
          have hf0 := blk_frozen HR2.out 0
          have hb1 := blk_cell HR2.out 1
          have hf1 := blk_frozen HR2.out 1
          have hb2 := blk_cell HR2.out 2
          have hf2 := blk_frozen HR2.out 2
          have hb3 := blk_cell HR2.out 3
          have hf3 := blk_frozen HR2.out 3
          go_wp2_with fail
          refine bodyPost_ret (res_cell3 rfl _ _ w.heap.size 24 #[.int .u64 0, .int .u64 0, .int .u64 0, .string ⟨#[]⟩] _ rfl (blk_set (blk_set (blk_set (blk_set HR2.out 0 _) 1 _) 2 _) 3 _) Tryd.underlying24 rfl (by kernel_rfl)) rfl ?_
          refine ⟨by unfold CrEnd; rw [HN.out]; rfl, ?_⟩
          exact bel_set (bel_set (bel_set (bel_set HB2.out (Nat.le_refl _) _) (Nat.le_refl _) _) (Nat.le_refl _) _) (Nat.le_refl _) _
        | some q =>
          obtain ⟨code, d, N⟩ := q
          rw [hrd3] at hu
          simp only at hu
          subst hu
          have HN := Kp.mk (cd_some HZ.out HD.out HD2.out hrd3)
          have hlt := (mhRead_lt hrd3).2.1
          rw [List.length_drop] at hlt
          have hN : k + m + N ≤ 2147483647 := by have := HX.out; omega
          clear hrd3 hlt
          have hb0 := blk_cell HR2.out 0
          have hf0 := blk_frozen HR2.out 0
          have hb1 := blk_cell HR2.out 1
          have hf1 := blk_frozen HR2.out 1
          have hb2 := blk_cell HR2.out 2
          have hf2 := blk_frozen HR2.out 2
          have hb3 := blk_cell HR2.out 3
          have hf3 := blk_frozen HR2.out 3
          go_wp2_with fail
          refine bodyPost_ret (res_cell3 rfl _ _ w.heap.size 24 #[.int .u64 1, .int .u64 codec, .int .u64 code, .string (strB d)] _ rfl (blk_set (blk_set (blk_set (blk_set HR2.out 0 _) 1 _) 2 _) 3 _) Tryd.underlying24 rfl (by kernel_rfl)) rfl ?_
          refine ⟨crEnd_some HN.out (by omega), ?_⟩
          exact bel_set (bel_set (bel_set (bel_set HB2.out (Nat.le_refl _) _) (Nat.le_refl _) _) (Nat.le_refl _) _) (Nat.le_refl _) _
    · have HN := Kp.mk (cd_none2 HZ.out hrd hx)
      have q1 : ((x : Int) == 1) = false := beq_eq_false_iff_ne.2 (by omega)
      have q3 : ((x : Int) != 1) = true := by rw [bne, q1]; rfl
      clear hrd hx
      have hb0 := blk_cell HR0.out 0
      have hf0 := blk_frozen HR0.out 0
      have hb1 := blk_cell HR0.out 1
      have hf1 := blk_frozen HR0.out 1
      have hb2 := blk_cell HR0.out 2
      have hf2 := blk_frozen HR0.out 2
      have hb3 := blk_cell HR0.out 3
      have hf3 := blk_frozen HR0.out 3
      go_wp2_with fail
      refine bodyPost_ret (res_cell3 rfl _ _ w.heap.size 24 #[.int .u64 0, .int .u64 0, .int .u64 0, .string ⟨#[]⟩] _ rfl (blk_set (blk_set (blk_set (blk_set HR0.out 0 _) 1 _) 2 _) 3 _) Tryd.underlying24 rfl (by kernel_rfl)) rfl ?_
      refine ⟨by unfold CrEnd; rw [HN.out]; rfl, ?_⟩
      exact bel_set (bel_set (bel_set (bel_set HB0.out (Nat.le_refl _) _) (Nat.le_refl _) _) (Nat.le_refl _) _) (Nat.le_refl _) _

set_option maxHeartbeats 4000000 in
set_option maxRecDepth 100000 in
theorem specCd_oneB (s : ByteArray) (w : World) (HX : Kp (s.size ≤ 2147483647 ∧ (bl s).length = s.size)) (HZ : Kp (¬ cdZero (bl s))) (h2 : 2 < s.size) (k0 : s[0].toNat = 18) (q2 : ((s[1].toNat : Int) == 32) = false) :
    Calls Tryd.prog 9 #[.string s] w fun e w' => CrEnd (bl s) e ∧ Below w.heap.size w w' := by
  have hs31 := HX.out.1
  have H1 := Kp.mk (fun w => specUv_calls s w (by have := HX.out.1; omega))
  go_enter Tryd.func9, Tryd.ntmps9
  go_wp2_with fail
  generalize hW0 : w.alloc _ = W0
  have HR0 : Kp (W0.heap[w.heap.size]? = some (.cells #[.int .u64 0, .int .u64 0, .int .u64 0, .string ⟨#[]⟩] 24 (0, 0))) := ⟨by rw [← hW0]; exact blk_new (Below.refl _ _)⟩
  have HB0 : Kp (Below w.heap.size w W0) := ⟨by rw [← hW0]; exact bel_alloc (Below.refl _ _) _⟩
  generalize (s[1]'(by omega)).toNat = y at q2 ⊢
  clear hW0 k0 q2 h2
  refine (H1.out _).mono ?_
  rintro e w' ⟨hu, rfl⟩
  unfold SvEnd at hu
  clear H1
  cases hrd : uvRead (bl s) with
  | none =>
    rw [hrd] at hu
    obtain ⟨y, hy, rfl⟩ := hu
    have HN := Kp.mk (cd_none1 HZ.out hrd)
    have hy2 : (!y == 0) = true := by rw [hy]; rfl
    have hy3 : (y != 0) = true := hy2
    clear hrd
    have hb0 := blk_cell HR0.out 0
    have hf0 := blk_frozen HR0.out 0
    have hb1 := blk_cell HR0.out 1
    have hf1 := blk_frozen HR0.out 1
    have hb2 := blk_cell HR0.out 2
    have hf2 := blk_frozen HR0.out 2
    have hb3 := blk_cell HR0.out 3
    have hf3 := blk_frozen HR0.out 3
    go_wp2_with fail
    refine bodyPost_ret (res_cell3 rfl _ _ w.heap.size 24 #[.int .u64 0, .int .u64 0, .int .u64 0, .string ⟨#[]⟩] _ rfl (blk_set (blk_set (blk_set (blk_set HR0.out 0 _) 1 _) 2 _) 3 _) Tryd.underlying24 rfl (by kernel_rfl)) rfl ?_
    refine ⟨by unfold CrEnd; rw [HN.out]; rfl, ?_⟩
    exact bel_set (bel_set (bel_set (bel_set HB0.out (Nat.le_refl _) _) (Nat.le_refl _) _) (Nat.le_refl _) _) (Nat.le_refl _) _
  | some p =>
    obtain ⟨x, k⟩ := p
    rw [hrd] at hu
    obtain rfl : e = _ := hu
    by_cases hx : x = 1
    · subst hx
      have hk := uvRead_some hrd
      have hk2 : k ≤ s.size := by have := HX.out.2; omega
      have H2 := Kp.mk (fun w => specUv_calls (s.extract k s.size) w (by rw [ByteArray.size_extract]; have := HX.out.1; omega))
      rw [cut_bl] at H2
      have HD := Kp.mk hrd
      clear hrd hk
      go_wp2_with fail
      refine (H2.out _).mono ?_
      rintro e w' ⟨hu, rfl⟩
      unfold SvEnd at hu
      clear H2
      cases hrd2 : uvRead ((bl s).drop k) with
      | none =>
        rw [hrd2] at hu
        obtain ⟨y, hy, rfl⟩ := hu
        have HN := Kp.mk (cd_none3 HZ.out HD.out hrd2)
        have hy2 : (!y == 0) = true := by rw [hy]; rfl
        have hy3 : (y != 0) = true := hy2
        clear hrd2
        have hb0 := blk_cell HR0.out 0
        have hf0 := blk_frozen HR0.out 0
        have hb1 := blk_cell HR0.out 1
        have hf1 := blk_frozen HR0.out 1
        have hb2 := blk_cell HR0.out 2
        have hf2 := blk_frozen HR0.out 2
        have hb3 := blk_cell HR0.out 3
        have hf3 := blk_frozen HR0.out 3
        go_wp2_with fail
        refine bodyPost_ret (res_cell3 rfl _ _ w.heap.size 24 #[.int .u64 0, .int .u64 0, .int .u64 0, .string ⟨#[]⟩] _ rfl (blk_set (blk_set (blk_set (blk_set HR0.out 0 _) 1 _) 2 _) 3 _) Tryd.underlying24 rfl (by kernel_rfl)) rfl ?_
        refine ⟨by unfold CrEnd; rw [HN.out]; rfl, ?_⟩
        exact bel_set (bel_set (bel_set (bel_set HB0.out (Nat.le_refl _) _) (Nat.le_refl _) _) (Nat.le_refl _) _) (Nat.le_refl _) _
      | some p =>
        obtain ⟨codec, m⟩ := p
        rw [hrd2] at hu
        obtain rfl : e = _ := hu
        have hm := uvRead_some hrd2
        have hm2 : k + m ≤ s.size := by have := HX.out.2; have := hm.2.1; rw [List.length_drop] at this; omega
        have H3 := Kp.mk (fun w => specMh_calls (s.extract (k + m) s.size) w (by rw [ByteArray.size_extract]; have := HX.out.1; omega))
        rw [cut_bl] at H3
        have HD2 := Kp.mk hrd2
        clear hrd2 hm
        go_wp2_with fail
        refine (H3.out _).mono ?_
        rintro e w2 ⟨hu, hb⟩
        have HR2 := Kp.mk (blk_keep HR0.out hb)
        have HB2 := Kp.mk (bel_then HB0.out hb)
        unfold SmEnd at hu
        clear H3 hb
        cases hrd3 : mhRead ((bl s).drop (k + m)) with
        | none =>
          rw [hrd3] at hu
          simp only at hu
          subst hu
          have HN := Kp.mk (cd_none4 HZ.out HD.out HD2.out hrd3)
          clear hrd3
          have hb0 := blk_cell HR2.out 0
          have hf0 := blk_frozen HR2.out 0
          have hb1 := blk_cell HR2.out 1
          have hf1 := blk_frozen HR2.out 1
          have hb2 := blk_cell HR2.out 2
          have hf2 := blk_frozen HR2.out 2
          have hb3 := blk_cell HR2.out 3
          have hf3 := blk_frozen HR2.out 3
          go_wp2_with fail
          refine bodyPost_ret (res_cell3 rfl _ _ w.heap.size 24 #[.int .u64 0, .int .u64 0, .int .u64 0, .string ⟨#[]⟩] _ rfl (blk_set (blk_set (blk_set (blk_set HR2.out 0 _) 1 _) 2 _) 3 _) Tryd.underlying24 rfl (by kernel_rfl)) rfl ?_
          refine ⟨by unfold CrEnd; rw [HN.out]; rfl, ?_⟩
          exact bel_set (bel_set (bel_set (bel_set HB2.out (Nat.le_refl _) _) (Nat.le_refl _) _) (Nat.le_refl _) _) (Nat.le_refl _) _
        | some q =>
          obtain ⟨code, d, N⟩ := q
          rw [hrd3] at hu
          simp only at hu
          subst hu
          have HN := Kp.mk (cd_some HZ.out HD.out HD2.out hrd3)
          have hlt := (mhRead_lt hrd3).2.1
          rw [List.length_drop] at hlt
          have hN : k + m + N ≤ 2147483647 := by have := HX.out; omega
          clear hrd3 hlt
          have hb0 := blk_cell HR2.out 0
          have hf0 := blk_frozen HR2.out 0
          have hb1 := blk_cell HR2.out 1
          have hf1 := blk_frozen HR2.out 1
          have hb2 := blk_cell HR2.out 2
          have hf2 := blk_frozen HR2.out 2
          have hb3 := blk_cell HR2.out 3
          have hf3 := blk_frozen HR2.out 3
          go_wp2_with fail
          refine bodyPost_ret (res_cell3 rfl _ _ w.heap.size 24 #[.int .u64 1, .int .u64 codec, .int .u64 code, .string (strB d)] _ rfl (blk_set (blk_set (blk_set (blk_set HR2.out 0 _) 1 _) 2 _) 3 _) Tryd.underlying24 rfl (by kernel_rfl)) rfl ?_
          refine ⟨crEnd_some HN.out (by omega), ?_⟩
          exact bel_set (bel_set (bel_set (bel_set HB2.out (Nat.le_refl _) _) (Nat.le_refl _) _) (Nat.le_refl _) _) (Nat.le_refl _) _
    · have HN := Kp.mk (cd_none2 HZ.out hrd hx)
      have q1 : ((x : Int) == 1) = false := beq_eq_false_iff_ne.2 (by omega)
      have q3 : ((x : Int) != 1) = true := by rw [bne, q1]; rfl
      clear hrd hx
      have hb0 := blk_cell HR0.out 0
      have hf0 := blk_frozen HR0.out 0
      have hb1 := blk_cell HR0.out 1
      have hf1 := blk_frozen HR0.out 1
      have hb2 := blk_cell HR0.out 2
      have hf2 := blk_frozen HR0.out 2
      have hb3 := blk_cell HR0.out 3
      have hf3 := blk_frozen HR0.out 3
      go_wp2_with fail
      refine bodyPost_ret (res_cell3 rfl _ _ w.heap.size 24 #[.int .u64 0, .int .u64 0, .int .u64 0, .string ⟨#[]⟩] _ rfl (blk_set (blk_set (blk_set (blk_set HR0.out 0 _) 1 _) 2 _) 3 _) Tryd.underlying24 rfl (by kernel_rfl)) rfl ?_
      refine ⟨by unfold CrEnd; rw [HN.out]; rfl, ?_⟩
      exact bel_set (bel_set (bel_set (bel_set HB0.out (Nat.le_refl _) _) (Nat.le_refl _) _) (Nat.le_refl _) _) (Nat.le_refl _) _

set_option maxHeartbeats 4000000 in
set_option maxRecDepth 100000 in
theorem specCd_oneC (s : ByteArray) (w : World) (HX : Kp (s.size ≤ 2147483647 ∧ (bl s).length = s.size)) (HZ : Kp (¬ cdZero (bl s))) (h2 : 2 < s.size) (q2 : ((s[0].toNat : Int) == 18) = false) :
    Calls Tryd.prog 9 #[.string s] w fun e w' => CrEnd (bl s) e ∧ Below w.heap.size w w' := by
  have hs31 := HX.out.1
  have H1 := Kp.mk (fun w => specUv_calls s w (by have := HX.out.1; omega))
  go_enter Tryd.func9, Tryd.ntmps9
  go_wp2_with fail
  generalize hW0 : w.alloc _ = W0
  have HR0 : Kp (W0.heap[w.heap.size]? = some (.cells #[.int .u64 0, .int .u64 0, .int .u64 0, .string ⟨#[]⟩] 24 (0, 0))) := ⟨by rw [← hW0]; exact blk_new (Below.refl _ _)⟩
  have HB0 : Kp (Below w.heap.size w W0) := ⟨by rw [← hW0]; exact bel_alloc (Below.refl _ _) _⟩
  generalize (s[0]'(by omega)).toNat = y at q2 ⊢
  clear hW0 q2 h2
  refine (H1.out _).mono ?_
  rintro e w' ⟨hu, rfl⟩
  unfold SvEnd at hu
  clear H1
  cases hrd : uvRead (bl s) with
  | none =>
    rw [hrd] at hu
    obtain ⟨y, hy, rfl⟩ := hu
    have HN := Kp.mk (cd_none1 HZ.out hrd)
    have hy2 : (!y == 0) = true := by rw [hy]; rfl
    have hy3 : (y != 0) = true := hy2
    clear hrd
    have hb0 := blk_cell HR0.out 0
    have hf0 := blk_frozen HR0.out 0
    have hb1 := blk_cell HR0.out 1
    have hf1 := blk_frozen HR0.out 1
    have hb2 := blk_cell HR0.out 2
    have hf2 := blk_frozen HR0.out 2
    have hb3 := blk_cell HR0.out 3
    have hf3 := blk_frozen HR0.out 3
    go_wp2_with fail
    refine bodyPost_ret (res_cell3 rfl _ _ w.heap.size 24 #[.int .u64 0, .int .u64 0, .int .u64 0, .string ⟨#[]⟩] _ rfl (blk_set (blk_set (blk_set (blk_set HR0.out 0 _) 1 _) 2 _) 3 _) Tryd.underlying24 rfl (by kernel_rfl)) rfl ?_
    refine ⟨by unfold CrEnd; rw [HN.out]; rfl, ?_⟩
    exact bel_set (bel_set (bel_set (bel_set HB0.out (Nat.le_refl _) _) (Nat.le_refl _) _) (Nat.le_refl _) _) (Nat.le_refl _) _
  | some p =>
    obtain ⟨x, k⟩ := p
    rw [hrd] at hu
    obtain rfl : e = _ := hu
    by_cases hx : x = 1
    · subst hx
      have hk := uvRead_some hrd
      have hk2 : k ≤ s.size := by have := HX.out.2; omega
      have H2 := Kp.mk (fun w => specUv_calls (s.extract k s.size) w (by rw [ByteArray.size_extract]; have := HX.out.1; omega))
      rw [cut_bl] at H2
      have HD := Kp.mk hrd
      clear hrd hk
      go_wp2_with fail
      refine (H2.out _).mono ?_
      rintro e w' ⟨hu, rfl⟩
      unfold SvEnd at hu
      clear H2
      cases hrd2 : uvRead ((bl s).drop k) with
      | none =>
        rw [hrd2] at hu
        obtain ⟨y, hy, rfl⟩ := hu
        have HN := Kp.mk (cd_none3 HZ.out HD.out hrd2)
        have hy2 : (!y == 0) = true := by rw [hy]; rfl
        have hy3 : (y != 0) = true := hy2
        clear hrd2
        have hb0 := blk_cell HR0.out 0
        have hf0 := blk_frozen HR0.out 0
        have hb1 := blk_cell HR0.out 1
        have hf1 := blk_frozen HR0.out 1
        have hb2 := blk_cell HR0.out 2
        have hf2 := blk_frozen HR0.out 2
        have hb3 := blk_cell HR0.out 3
        have hf3 := blk_frozen HR0.out 3
        go_wp2_with fail
        refine bodyPost_ret (res_cell3 rfl _ _ w.heap.size 24 #[.int .u64 0, .int .u64 0, .int .u64 0, .string ⟨#[]⟩] _ rfl (blk_set (blk_set (blk_set (blk_set HR0.out 0 _) 1 _) 2 _) 3 _) Tryd.underlying24 rfl (by kernel_rfl)) rfl ?_
        refine ⟨by unfold CrEnd; rw [HN.out]; rfl, ?_⟩
        exact bel_set (bel_set (bel_set (bel_set HB0.out (Nat.le_refl _) _) (Nat.le_refl _) _) (Nat.le_refl _) _) (Nat.le_refl _) _
      | some p =>
        obtain ⟨codec, m⟩ := p
        rw [hrd2] at hu
        obtain rfl : e = _ := hu
        have hm := uvRead_some hrd2
        have hm2 : k + m ≤ s.size := by have := HX.out.2; have := hm.2.1; rw [List.length_drop] at this; omega
        have H3 := Kp.mk (fun w => specMh_calls (s.extract (k + m) s.size) w (by rw [ByteArray.size_extract]; have := HX.out.1; omega))
        rw [cut_bl] at H3
        have HD2 := Kp.mk hrd2
        clear hrd2 hm
        go_wp2_with fail
        refine (H3.out _).mono ?_
        rintro e w2 ⟨hu, hb⟩
        have HR2 := Kp.mk (blk_keep HR0.out hb)
        have HB2 := Kp.mk (bel_then HB0.out hb)
        unfold SmEnd at hu
        clear H3 hb
        cases hrd3 : mhRead ((bl s).drop (k + m)) with
        | none =>
          rw [hrd3] at hu
          simp only at hu
          subst hu
          have HN := Kp.mk (cd_none4 HZ.out HD.out HD2.out hrd3)
          clear hrd3
          have hb0 := blk_cell HR2.out 0
          have hf0 := blk_frozen HR2.out 0
          have hb1 := blk_cell HR2.out 1
          have hf1 := blk_frozen HR2.out 1
          have hb2 := blk_cell HR2.out 2
          have hf2 := blk_frozen HR2.out 2
          have hb3 := blk_cell HR2.out 3
          have hf3 := blk_frozen HR2.out 3
          go_wp2_with fail
          refine bodyPost_ret (res_cell3 rfl _ _ w.heap.size 24 #[.int .u64 0, .int .u64 0, .int .u64 0, .string ⟨#[]⟩] _ rfl (blk_set (blk_set (blk_set (blk_set HR2.out 0 _) 1 _) 2 _) 3 _) Tryd.underlying24 rfl (by kernel_rfl)) rfl ?_
          refine ⟨by unfold CrEnd; rw [HN.out]; rfl, ?_⟩
          exact bel_set (bel_set (bel_set (bel_set HB2.out (Nat.le_refl _) _) (Nat.le_refl _) _) (Nat.le_refl _) _) (Nat.le_refl _) _
        | some q =>
          obtain ⟨code, d, N⟩ := q
          rw [hrd3] at hu
          simp only at hu
          subst hu
          have HN := Kp.mk (cd_some HZ.out HD.out HD2.out hrd3)
          have hlt := (mhRead_lt hrd3).2.1
          rw [List.length_drop] at hlt
          have hN : k + m + N ≤ 2147483647 := by have := HX.out; omega
          clear hrd3 hlt
          have hb0 := blk_cell HR2.out 0
          have hf0 := blk_frozen HR2.out 0
          have hb1 := blk_cell HR2.out 1
          have hf1 := blk_frozen HR2.out 1
          have hb2 := blk_cell HR2.out 2
          have hf2 := blk_frozen HR2.out 2
          have hb3 := blk_cell HR2.out 3
          have hf3 := blk_frozen HR2.out 3
          go_wp2_with fail
          refine bodyPost_ret (res_cell3 rfl _ _ w.heap.size 24 #[.int .u64 1, .int .u64 codec, .int .u64 code, .string (strB d)] _ rfl (blk_set (blk_set (blk_set (blk_set HR2.out 0 _) 1 _) 2 _) 3 _) Tryd.underlying24 rfl (by kernel_rfl)) rfl ?_
          refine ⟨crEnd_some HN.out (by omega), ?_⟩
          exact bel_set (bel_set (bel_set (bel_set HB2.out (Nat.le_refl _) _) (Nat.le_refl _) _) (Nat.le_refl _) _) (Nat.le_refl _) _
    · have HN := Kp.mk (cd_none2 HZ.out hrd hx)
      have q1 : ((x : Int) == 1) = false := beq_eq_false_iff_ne.2 (by omega)
      have q3 : ((x : Int) != 1) = true := by rw [bne, q1]; rfl
      clear hrd hx
      have hb0 := blk_cell HR0.out 0
      have hf0 := blk_frozen HR0.out 0
      have hb1 := blk_cell HR0.out 1
      have hf1 := blk_frozen HR0.out 1
      have hb2 := blk_cell HR0.out 2
      have hf2 := blk_frozen HR0.out 2
      have hb3 := blk_cell HR0.out 3
      have hf3 := blk_frozen HR0.out 3
      go_wp2_with fail
      refine bodyPost_ret (res_cell3 rfl _ _ w.heap.size 24 #[.int .u64 0, .int .u64 0, .int .u64 0, .string ⟨#[]⟩] _ rfl (blk_set (blk_set (blk_set (blk_set HR0.out 0 _) 1 _) 2 _) 3 _) Tryd.underlying24 rfl (by kernel_rfl)) rfl ?_
      refine ⟨by unfold CrEnd; rw [HN.out]; rfl, ?_⟩
      exact bel_set (bel_set (bel_set (bel_set HB0.out (Nat.le_refl _) _) (Nat.le_refl _) _) (Nat.le_refl _) _) (Nat.le_refl _) _

/-- spec.ReadCid. -/
theorem specCd_calls (s : ByteArray) (w : World) (hs : s.size ≤ 2147483647) :
    Calls Tryd.prog 9 #[.string s] w fun e w' => CrEnd (bl s) e ∧ Below w.heap.size w w' := by
  have hl := bl_length s
  have HX := Kp.mk (And.intro hs hl)
  by_cases hz : cdZero (bl s)
  · have k0 : (s[0]'(by have := hz.1; omega)).toNat = 18 := bl_at (by have := hz.1; omega) hz.2.1
    have k1 : (s[1]'(by have := hz.1; omega)).toNat = 32 := bl_at (by have := hz.1; omega) hz.2.2
    by_cases h34 : s.size < 34
    · exact specCd_short s w HX ⟨by unfold cdRead; rw [if_pos hz, if_pos (by omega)]⟩ (by have := hz.1; omega) h34 k0 k1
    · exact specCd_zero s w HX ⟨cdRead_zero hz (by omega)⟩ (by omega) k0 k1
  by_cases h2 : s.size ≤ 2
  · exact specCd_oneA s w HX ⟨hz⟩ h2
  have g0 : (bl s)[0]? = some (s[0]'(by omega)) := by rw [List.getElem?_eq_getElem (by omega)]; rfl
  have g1 : (bl s)[1]? = some (s[1]'(by omega)) := by rw [List.getElem?_eq_getElem (by omega)]; rfl
  by_cases b0 : (s[0]'(by omega)).toNat = 18
  · have b1 : ¬ (s[1]'(by omega)).toNat = 32 := fun h => hz ⟨by omega, by rw [g0, ← UInt8.toNat_inj.1 (show (18 : UInt8).toNat = _ from b0.symm)], by rw [g1, ← UInt8.toNat_inj.1 (show (32 : UInt8).toNat = _ from h.symm)]⟩
    exact specCd_oneB s w HX ⟨hz⟩ (by omega) b0 (beq_eq_false_iff_ne.2 (by omega))
  · exact specCd_oneC s w HX ⟨hz⟩ (by omega) (beq_eq_false_iff_ne.2 (by omega))

end Go.Proofs.YtdppnlomhlnbkaaDoor
