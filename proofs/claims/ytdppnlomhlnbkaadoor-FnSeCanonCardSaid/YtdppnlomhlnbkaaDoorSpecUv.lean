/- The walks of the reference's functions that read varints and multihashes. -/
import Derived.Test.YtdppnlomhlnbkaaDoorMhA
namespace Go.Proofs.YtdppnlomhlnbkaaDoor
open Go.RowKit

/-- What spec.ReadVarint hands back. -/
def SvEnd (bs : List UInt8) (e : Ending) : Prop :=
  match uvRead bs with
  | some (x, n) => e = .returned (.tuple #[.int .u64 x, .int .i64 n, .int .i64 0])
  | none => ∃ y : Int, ((y == 0) = false) ∧ e = .returned (.tuple #[.int .u64 0, .int .i64 0, .int .i64 y])
theorem svEnd_none {bs : List UInt8} (h : uvRead bs = none) {y : Int} (hy : (y == 0) = false) : SvEnd bs (.returned (.tuple #[.int .u64 0, .int .i64 0, .int .i64 y])) := by
  unfold SvEnd; rw [h]; exact ⟨y, hy, rfl⟩
theorem svEnd_some {bs : List UInt8} {x n : Nat} {X N : Int} (h : uvRead bs = some (x, n)) (hx : X = (x : Int)) (hn : N = (n : Int)) : SvEnd bs (.returned (.tuple #[.int .u64 X, .int .i64 N, .int .i64 0])) := by
  subst hx hn; unfold SvEnd; rw [h]

theorem uv_or2 (acc k : Nat) (b : UInt8) (hk : k ≤ 8) (hacc : acc < 2 ^ (7 * k)) :
    bits .or .u64 (acc : Int) (IntKind.u64.wrap (IntKind.u64.wrap (bits .and .u8 (b.toNat : Int) 127) * 2 ^ (7 * k))) = ((acc + (b.toNat % 128) * 2 ^ (7 * k) : Nat) : Int) := by
  have hb := b.toNat_lt
  rw [u8_and127 _ (by omega) (by omega), u64_wrap_id ((b.toNat : Int) % 128) (by omega) (by omega)]
  exact uv_or acc (b.toNat % 128) k hk hacc (by omega)
theorem bl_drop (s : ByteArray) (k : Nat) (h : k < s.size) : (bl s).drop k = s[k] :: (bl s).drop (k + 1) := by
  rw [List.drop_eq_getElem_cons (by rw [bl_length]; exact h)]; rfl

set_option maxHeartbeats 1600000 in
set_option maxRecDepth 100000 in
theorem specUv_calls (s : ByteArray) (w : World) (hs : s.size ≤ 9223372036854775807) :
    Calls Tryd.prog 23 #[.string s] w fun e w' => SvEnd (bl s) e ∧ w = w' := by
  go_enter Tryd.func23, Tryd.ntmps23
  go_wp2
  go_loop [5, 6] (fun vx vi => ∃ (k acc : Nat), k ≤ s.size ∧ k ≤ 9 ∧ Kp (acc < 2 ^ (7 * k)) ∧ vx = .int .u64 acc ∧ vi = .int .i64 k ∧ Kp (uvRead (bl s) = uvFrom k acc ((bl s).drop k)))
    (fun _ vi => s.size - (intOf vi).toNat)
  case atStart => exact ⟨0, 0, by omega, by omega, ⟨by simp⟩, rfl, rfl, ⟨rfl⟩⟩
  case round =>
    obtain ⟨k, acc, hk, hk9, hacc, rfl, rfl, hrest⟩ := hrel
    by_cases hlt : k < s.size
    · have hd := bl_drop s k hlt
      rw [hd] at hrest
      clear hd
      have hb := s[k].toNat_lt
      by_cases h9 : 9 ≤ k
      · have q1 : ((k : Int) == 8) = false := beq_eq_false_iff_ne.2 (by omega)
        go_wp2
        go_ret3
        exact ⟨svEnd_none (by rw [hrest.out]; exact uvF_over (Or.inr h9)) rfl, rfl⟩
      by_cases h8 : k = 8 ∧ 128 ≤ s[k].toNat
      · have q1 : ((k : Int) == 8) = true := beq_iff_eq.2 (by omega)
        have q2 : decide ((128 : Int) ≤ (s[k].toNat : Int)) = true := decide_eq_true (by omega)
        have HH := Kp.mk h8
        clear h8
        go_wp2
        go_ret3
        exact ⟨svEnd_none (by rw [hrest.out]; exact uvF_over (Or.inl HH.out)) rfl, rfl⟩
      have ho := Kp.mk (uv_or2 acc k s[k] (by omega) hacc.out)
      by_cases hk8 : k = 8
      · subst hk8
        have HB := Kp.mk (show s[8].toNat < 128 by omega)
        have q1 : ((128 : Int) ≤ (s[8].toNat : Int)) = False := eq_false (by omega)
        have q2 : ((s[8].toNat : Int) < 128) = True := eq_true (by omega)
        clear h8 h9
        by_cases hz : s[8].toNat = 0
        · have q3 : ((s[8].toNat : Int) == 0) = true := beq_iff_eq.2 (by omega)
          have HZ := Kp.mk hz
          clear hz
          go_wp2
          go_ret3
          exact ⟨svEnd_none (by rw [hrest.out]; exact uvF_zero HZ.out (by omega) (by omega)) rfl, rfl⟩
        · have q3 : ((s[8].toNat : Int) == 0) = false := beq_eq_false_iff_ne.2 (by omega)
          have HZ := Kp.mk hz
          clear hz
          go_wp2
          go_ret3
          exact ⟨svEnd_some (by rw [hrest.out]; exact uvF_last HB.out (Or.inl HZ.out) (by omega)) (by
            have h := ho.out
            rw [Nat.mod_eq_of_lt HB.out] at h
            exact h) (by omega), rfl⟩
      have q0 : ((k : Int) == 8) = false := beq_eq_false_iff_ne.2 (by omega)
      by_cases hb1 : s[k].toNat < 128
      · have HB := Kp.mk hb1
        by_cases hk0 : 0 < k
        · by_cases hz : s[k].toNat = 0
          · have q3 : ((s[k].toNat : Int) == 0) = true := beq_iff_eq.2 (by omega)
            have HZ := Kp.mk hz
            clear hz h8
            go_wp2
            go_ret3
            exact ⟨svEnd_none (by rw [hrest.out]; exact uvF_zero HZ.out (by omega) (by omega)) rfl, rfl⟩
          · have q3 : ((s[k].toNat : Int) == 0) = false := beq_eq_false_iff_ne.2 (by omega)
            have HZ := Kp.mk hz
            clear hz h8
            go_wp2
            go_ret3
            exact ⟨svEnd_some (by rw [hrest.out]; exact uvF_last HB.out (Or.inl HZ.out) (by omega)) (by
              have h := ho.out
              rw [Nat.mod_eq_of_lt HB.out] at h
              exact h) (by omega), rfl⟩
        · obtain rfl : k = 0 := by omega
          clear h8
          go_wp2
          go_ret3
          exact ⟨svEnd_some (by rw [hrest.out]; exact uvF_last HB.out (Or.inr rfl) (by omega)) (by
            have h := ho.out
            rw [Nat.mod_eq_of_lt HB.out] at h
            rw [show (2 : Int) ^ (7 * 0) = 1 from rfl, Int.mul_one] at h
            exact h) (by omega), rfl⟩
      · have HB := Kp.mk (show 128 ≤ s[k].toNat by omega)
        clear h8
        go_wp2
        go_round
        case rel =>
          have hm : 2 ^ (7 * (k + 1)) = 128 * 2 ^ (7 * k) := by rw [show 7 * (k + 1) = 7 + 7 * k from by omega, Nat.pow_add]
          have h1 : (s[k].toNat % 128) * 2 ^ (7 * k) ≤ 127 * 2 ^ (7 * k) := Nat.mul_le_mul_right _ (by omega)
          have ha := hacc.out
          exact ⟨k + 1, acc + (s[k].toNat % 128) * 2 ^ (7 * k), by omega, by omega, ⟨by rw [hm]; omega⟩, congrArg (Value.int .u64) ho.out, by go_num, ⟨by rw [hrest.out]; exact uvF_more HB.out (by omega)⟩⟩
        case measure => simp [intOf]; omega
    · have hkn : k = s.size := by omega
      have hz : Kp (uvRead (bl s) = none) := ⟨by rw [hrest.out, List.drop_of_length_le (by rw [bl_length]; omega)]; rfl⟩
      clear hrest hacc
      go_wp2
      go_ret3
      exact ⟨svEnd_none hz.out rfl, rfl⟩

/-- What spec.ReadMultihash hands back. -/
def SmEnd (bs : List UInt8) (e : Ending) : Prop :=
  match mhRead bs with
  | some (code, d, n) => e = .returned (.tuple #[.int .u64 code, .string (strB d), .int .i64 n, .bool true])
  | none => e = .returned (.tuple #[.int .u64 0, .string ⟨#[]⟩, .int .i64 0, .bool false])
theorem smEnd_none {bs : List UInt8} (h : mhRead bs = none) : SmEnd bs (.returned (.tuple #[.int .u64 0, .string ⟨#[]⟩, .int .i64 0, .bool false])) := by
  unfold SmEnd; rw [h]
theorem smEnd_some {bs : List UInt8} {code N : Nat} {n : Int} {d : List UInt8} {s : ByteArray} (h : mhRead bs = some (code, d, N)) (hn : n = (N : Int)) (hd : s = strB d) : SmEnd bs (.returned (.tuple #[.int .u64 code, .string s, .int .i64 n, .bool true])) := by
  subst hn hd; unfold SmEnd; rw [h]

theorem bl_extract (s : ByteArray) (a b : Nat) : bl (s.extract a b) = ((bl s).take b).drop a := by
  unfold bl
  rw [ByteArray.data_extract, Array.toList_extract, List.extract_eq_take_drop]
  rw [List.drop_take]

set_option maxHeartbeats 1600000 in
set_option maxRecDepth 100000 in
theorem specMh_calls (s : ByteArray) (w : World) (hs : s.size ≤ 2147483647) :
    Calls Tryd.prog 24 #[.string s] w fun e w' => SmEnd (bl s) e ∧ Below w.heap.size w w' := by
  have hbl := bl_length s
  have H1 := Kp.mk (fun w => specUv_calls s w (by omega))
  go_enter Tryd.func24, Tryd.ntmps24
  go_wp2_with fail
  refine (H1.out _).mono ?_
  rintro e w' ⟨hu, rfl⟩
  unfold SvEnd at hu
  clear H1
  cases hrd : uvRead (bl s) with
  | none =>
    rw [hrd] at hu
    obtain ⟨y, hy, rfl⟩ := hu
    have HM := Kp.mk (mhRead_none1 hrd)
    clear hrd
    go_wp2_with fail
    (try simp only [Exit.inBlock, Exit.then]); refine bodyPost_ret (results_tmp4 rfl _ _ _) rfl ?_
    exact ⟨smEnd_none HM.out, Below.refl _ _⟩
  | some p =>
    obtain ⟨code, k⟩ := p
    rw [hrd] at hu
    obtain rfl : e = _ := hu
    have hk := uvRead_some hrd
    have hk2 : k ≤ s.size := by omega
    have hbe : bl (s.extract k s.size) = (bl s).drop k := by rw [bl_extract, List.take_of_length_le (by omega)]
    have H2 := Kp.mk (fun w => specUv_calls (s.extract k s.size) w (by rw [ByteArray.size_extract]; omega))
    rw [hbe] at H2
    have HD := Kp.mk hrd
    clear hrd hk hbe
    go_wp2_with fail
    refine (H2.out _).mono ?_
    rintro e w' ⟨hu, rfl⟩
    unfold SvEnd at hu
    clear H2
    cases hrd2 : uvRead ((bl s).drop k) with
    | none =>
      rw [hrd2] at hu
      obtain ⟨y, hy, rfl⟩ := hu
      have HM := Kp.mk (mhRead_none2 HD.out hrd2)
      have hy2 : (!y == 0) = true := by rw [hy]; rfl
      have hy3 : (y != 0) = true := hy2
      clear hrd2
      go_wp2_with fail
      (try simp only [Exit.inBlock, Exit.then]); refine bodyPost_ret (results_tmp4 rfl _ _ _) rfl ?_
      exact ⟨smEnd_none HM.out, Below.refl _ _⟩
    | some p =>
      obtain ⟨size, m⟩ := p
      rw [hrd2] at hu
      obtain rfl : e = _ := hu
      have hm2 := uvRead_some hrd2
      rw [List.length_drop] at hm2
      have hm3 : m ≤ s.size - k := by omega
      have hsz := hm2.2.2.2
      have HD2 := Kp.mk hrd2
      clear hrd2 hm2
      by_cases hbig : s.size - k - m < size
      · have HM := Kp.mk (mhRead_none3 HD.out HD2.out (by omega))
        have q1 : decide ((s.size : Int) - (k : Int) - (m : Int) < (size : Int)) = true := decide_eq_true (by omega)
        clear hsz
        go_wp2_with fail
        (try simp only [Exit.inBlock, Exit.then]); refine bodyPost_ret (results_tmp4 rfl _ _ _) rfl ?_
        exact ⟨smEnd_none HM.out, Below.refl _ _⟩
      · have HM := Kp.mk (mhRead_some' HD.out HD2.out (by omega))
        have q1 : decide ((s.size : Int) - (k : Int) - (m : Int) < (size : Int)) = false := decide_eq_false (by omega)
        have hz1 : size ≤ 2147483647 := by omega
        have hz2 : k + m + size ≤ s.size := by omega
        clear hsz
        go_wp2_with fail
        go_quiet (fail)
        go_wp2
        (try simp only [Exit.inBlock, Exit.then]); refine bodyPost_ret (results_tmp4 rfl _ _ _) rfl ?_
        refine ⟨smEnd_some HM.out (by omega) ?_, below_self_drewN _ _⟩
        rw [← strB_bl (s.extract (k + m) (k + m + size)), bl_extract, List.drop_take, show k + m + size - (k + m) = size by omega]

end Go.Proofs.YtdppnlomhlnbkaaDoor
