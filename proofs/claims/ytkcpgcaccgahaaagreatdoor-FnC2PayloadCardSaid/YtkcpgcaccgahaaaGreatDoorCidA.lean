/- Some texts in one: CidUv, CidMath, CidFn, CidHash. -/
import Derived.Test.YtkcpgcaccgahaaaGreatDoorSpecUv
import Derived.Test.YtkcpgcaccgahaaaGreatDoorMhA
import Derived.Test.YtkcpgcaccgahaaaGreatDoorMathA
import Derived.Test.YtkcpgcaccgahaaaGreatDoorUvLaws
namespace Go.Proofs.YtkcpgcaccgahaaaGreatDoor
open Go.RowKit

set_option maxHeartbeats 1600000 in
set_option maxRecDepth 100000 in
/-- cid.uvarint, where a varint stands. -/
theorem cidUv_calls (s : ByteArray) (x n : Nat) (w : World) (hs : s.size ≤ 9223372036854775807) (hv : uvRead (bl s) = some (x, n)) :
    Calls Tryz.prog 105 #[.string s] w fun e w' => e = .returned (.tuple #[.int .u64 x, .int .i64 n, .nilIface]) ∧ w = w' := by
  go_enter Tryz.func105, Tryz.ntmps105
  go_wp2
  go_loop [5, 6, 7] (fun vx vs vi => ∃ (k acc : Nat), k ≤ s.size ∧ k ≤ 8 ∧ acc < 2 ^ (7 * k) ∧ vx = .int .u64 acc ∧ vs = .int .u64 (7 * k : Nat) ∧ vi = .int .i64 k ∧ Kp (uvFrom k acc ((bl s).drop k) = some (x, n)))
    (fun _ _ vi => s.size - (intOf vi).toNat)
  case atStart => exact ⟨0, 0, by omega, by omega, by simp, rfl, rfl, rfl, ⟨hv⟩⟩
  case round =>
    obtain ⟨k, acc, hk, hk8, hacc, rfl, rfl, rfl, hrest⟩ := hrel
    have hlt : k < s.size := by
      apply Nat.lt_of_not_le
      intro h
      have := hrest.out
      rw [List.drop_of_length_le (by rw [bl_length]; omega)] at this
      cases this
    have hd := bl_drop s k hlt
    rw [hd] at hrest
    clear hd
    have hb := s[k].toNat_lt
    have HA := Kp.mk hacc
    clear hacc
    by_cases hb1 : s[k].toNat < 128
    · have hz : s[k].toNat ≠ 0 ∨ k = 0 := by
        by_cases h0 : s[k].toNat = 0
        · by_cases hk0 : k = 0
          · exact .inr hk0
          · have := hrest.out
            rw [uvF_zero h0 (by omega) (by omega)] at this
            cases this
        · exact .inl h0
      have hend := hrest.out
      rw [uvF_last hb1 hz (by omega)] at hend
      have hend2 := Option.some.inj hend
      simp only [Prod.mk.injEq] at hend2
      have ho := Kp.mk (uv_or acc s[k].toNat k (by omega) HA.out (by omega))
      have HE := Kp.mk hend2
      have HZ := Kp.mk hz
      clear hend hend2 hrest
      by_cases hk0 : k = 0
      · subst hk0
        clear hz
        go_wp2
        all_goals go_ret3
        all_goals refine ⟨?_, rfl⟩
        all_goals rw [← HE.out.1, ← HE.out.2]
        all_goals have h := ho.out
        all_goals rw [show (2 : Int) ^ (7 * 0) = 1 from rfl, Int.mul_one, u64_wrap_id (s[0].toNat : Int) (by omega) (by omega)] at h
        · have hz0 : s[0].toNat = 0 := by assumption
          rw [hz0] at h ⊢
          simpa using h
        · simpa using h
      · have q3 : ((s[k].toNat : Int) == 0) = false := beq_eq_false_iff_ne.2 (by omega)
        clear hz
        go_wp2
        go_ret3
        exact ⟨by rw [← HE.out.1, ← HE.out.2, ← ho.out]; rfl, rfl⟩
    · have hk7 : k < 8 := by
        apply Nat.lt_of_not_le
        intro h
        have := hrest.out
        rw [uvF_over (.inl ⟨by omega, by omega⟩)] at this
        cases this
      go_wp2
      go_round
      case rel =>
        have ho := uv_or acc (s[k].toNat % 128) k (by omega) HA.out (by omega)
        have hm : 2 ^ (7 * (k + 1)) = 128 * 2 ^ (7 * k) := by rw [show 7 * (k + 1) = 7 + 7 * k from by omega, Nat.pow_add]
        have h1 : (s[k].toNat % 128) * 2 ^ (7 * k) ≤ 127 * 2 ^ (7 * k) := Nat.mul_le_mul_right _ (by omega)
        have ha := HA.out
        refine ⟨k + 1, acc + (s[k].toNat % 128) * 2 ^ (7 * k), by omega, by omega, by rw [hm]; omega, ?_, by rw [show 7 * (k + 1) = 7 * k + 7 from by omega]; go_num, by go_num, ⟨by have := hrest.out; rw [uvF_more (by omega) (by omega)] at this; exact this⟩⟩
        rw [u8_and127 _ (by omega) (by omega), u64_wrap_id ((s[k].toNat : Int) % 128) (by omega) (by omega)]
        exact congrArg (Value.int .u64) ho
      case measure => simp [intOf]; omega

end Go.Proofs.YtkcpgcaccgahaaaGreatDoor
namespace Go.Proofs.YtkcpgcaccgahaaaGreatDoor
open Go.Lib

theorem uvFrom_inv : ∀ (l : List UInt8) (i acc x n : Nat), acc < 2 ^ (7 * i) → uvFrom i acc l = some (x, n) →
    ∃ y, x = acc + y * 2 ^ (7 * i) ∧ l = uvarint y ++ l.drop (n - i) ∧ (uvarint y).length = n - i ∧ (0 < i → y ≠ 0)
  | [], _, _, _, _, _, h => by simp [uvFrom] at h
  | b :: r, i, acc, x, n, ha, h => by
    rw [uvFrom] at h
    have hb := b.toNat_lt
    split at h
    · cases h
    · rename_i h1
      split at h
      · rename_i h2
        split at h
        · cases h
        · rename_i h3
          simp only [Option.some.injEq, Prod.mk.injEq] at h
          obtain ⟨rfl, rfl⟩ := h
          have hu : uvarint b.toNat = [b] := by rw [uvarint_small h2]; simp
          refine ⟨b.toNat, rfl, ?_, ?_, fun hi h0 => h3 ⟨h0, hi⟩⟩
          · rw [hu, show i + 1 - i = 1 by omega]; rfl
          · rw [hu, show i + 1 - i = 1 by omega]; rfl
      · rename_i h2
        have hm : 2 ^ (7 * (i + 1)) = 128 * 2 ^ (7 * i) := by rw [show 7 * (i + 1) = 7 + 7 * i from by omega, Nat.pow_add]
        have h5 : (b.toNat % 128) * 2 ^ (7 * i) ≤ 127 * 2 ^ (7 * i) := Nat.mul_le_mul_right _ (by omega)
        have hacc : acc + (b.toNat % 128) * 2 ^ (7 * i) < 2 ^ (7 * (i + 1)) := by rw [hm]; omega
        obtain ⟨y, hx, hl, hlen, hne⟩ := uvFrom_inv r (i + 1) _ x n hacc h
        have hin := uvFrom_some r (i + 1) _ x n hacc h
        have hy0 : y ≠ 0 := hne (by omega)
        have hbig : uvarint (b.toNat % 128 + 128 * y) = b :: uvarint y := by
          rw [uvarint_big (by omega), show (b.toNat % 128 + 128 * y) / 128 = y by omega, show (b.toNat % 128 + 128 * y) % 128 + 128 = b.toNat by omega]
          simp
        refine ⟨b.toNat % 128 + 128 * y, ?_, ?_, ?_, fun _ => by omega⟩
        · rw [hx, hm, Nat.add_mul, Nat.add_assoc]
          congr 2
          rw [← Nat.mul_assoc, Nat.mul_comm 128 y]
        · rw [hbig, show n - i = (n - (i + 1)) + 1 by omega, List.drop_succ_cons, List.cons_append, ← hl]
        · rw [hbig, List.length_cons, hlen]; omega

theorem uvRead_inv {bs : List UInt8} {x n : Nat} (h : uvRead bs = some (x, n)) : bs = uvarint x ++ bs.drop n ∧ (uvarint x).length = n ∧ x < 2 ^ 63 := by
  obtain ⟨y, hx, hl, hlen, _⟩ := uvFrom_inv bs 0 0 x n (by simp) h
  have hxy : x = y := by rw [hx]; simp
  subst hxy
  exact ⟨hl, hlen, (uvRead_some h).2.2.2⟩

theorem mhRead_inv {bs : List UInt8} {code n : Nat} {d : List UInt8} (h : mhRead bs = some (code, d, n)) : bs = mhBytes code d ++ bs.drop n ∧ (mhBytes code d).length = n ∧ code < 2 ^ 63 ∧ d.length < 2 ^ 63 := by
  unfold mhRead at h
  split at h
  · cases h
  · rename_i code' k h1
    split at h
    · cases h
    · rename_i size m h2
      split at h
      · cases h
      · rename_i h3
        simp only [Option.some.injEq, Prod.mk.injEq] at h
        obtain ⟨rfl, rfl, rfl⟩ := h
        obtain ⟨e1, l1, b1⟩ := uvRead_inv h1
        obtain ⟨e2, l2, b2⟩ := uvRead_inv h2
        rw [List.drop_drop] at e2
        have hlen : ((bs.drop (k + m)).take size).length = size := by rw [List.length_take, List.length_drop]; omega
        refine ⟨?_, ?_, b1, by rw [hlen]; exact b2⟩
        · rw [mhBytes, hlen, List.append_assoc, List.append_assoc, show bs.drop (k + m + size) = (bs.drop (k + m)).drop size by rw [List.drop_drop], List.take_append_drop, ← e2]
          exact e1
        · rw [mhBytes, List.length_append, List.length_append, hlen, l1, l2]

/-- An identifier's bytes, of version 1. -/
def cdBytes (codec code : Nat) (d : List UInt8) : List UInt8 := 1 :: (uvarint codec ++ mhBytes code d)

/-- Begins as one of version 0. -/
def cdZero (bs : List UInt8) : Prop := 2 < bs.length ∧ bs[0]? = some 18 ∧ bs[1]? = some 32
instance (bs : List UInt8) : Decidable (cdZero bs) := by unfold cdZero; infer_instance

/-- The identifier with which a text begins: version, codec, hash function, digest, how many bytes. -/
def cdRead (bs : List UInt8) : Option (Nat × Nat × Nat × List UInt8 × Nat) :=
  if cdZero bs then (if bs.length < 34 then none else some (0, 112, 18, (bs.drop 2).take 32, 34))
  else match uvRead bs with
  | none => none
  | some (v, k) => if v = 1 then (match uvRead (bs.drop k) with
    | none => none
    | some (codec, m) => match mhRead (bs.drop (k + m)) with
      | none => none
      | some (code, d, n) => some (1, codec, code, d, k + m + n)) else none

theorem uvarint_one : uvarint 1 = [1] := by rw [uvarint_small (by omega)]; rfl
/-- What stands there where one of version 1 is read. -/
theorem cd_inv {bs : List UInt8} {k codec m code n : Nat} {d : List UInt8} (h1 : uvRead bs = some (1, k)) (h2 : uvRead (bs.drop k) = some (codec, m)) (h3 : mhRead (bs.drop (k + m)) = some (code, d, n)) :
    bs.take (k + m + n) = cdBytes codec code d ∧ (cdBytes codec code d).length = k + m + n ∧ k = 1 ∧ (uvarint codec).length = m ∧ codec < 2 ^ 63 ∧ code < 2 ^ 63 ∧ d.length < 2 ^ 63 := by
  obtain ⟨e1, l1, b1⟩ := uvRead_inv h1
  obtain ⟨e2, l2, b2⟩ := uvRead_inv h2
  obtain ⟨e3, l3, b3, b4⟩ := mhRead_inv h3
  rw [List.drop_drop] at e2
  have hb : bs = cdBytes codec code d ++ bs.drop (k + m + n) := by
    rw [List.drop_drop] at e3
    have : bs = uvarint 1 ++ (uvarint codec ++ (mhBytes code d ++ bs.drop (k + m + n))) := by rw [← e3, ← e2]; exact e1
    rw [this]
    conv => rhs; rw [← this]
    simp [cdBytes, uvarint_one]
  have hl : (cdBytes codec code d).length = k + m + n := by
    rw [uvarint_one] at l1
    simp only [cdBytes, List.length_cons, List.length_append, l2, l3]
    simp at l1; omega
  refine ⟨?_, hl, by rw [uvarint_one] at l1; simpa using l1.symm, l2, b2, b3, b4⟩
  rw [← hl]
  conv => lhs; rw [hb]
  rw [List.take_left' rfl]

end Go.Proofs.YtkcpgcaccgahaaaGreatDoor
namespace Go.Proofs.YtkcpgcaccgahaaaGreatDoor
open Go.RowKit

theorem bl_at {s : ByteArray} {k : Nat} (h : k < s.size) {b : UInt8} (hb : (bl s)[k]? = some b) : s[k].toNat = b.toNat := by
  have : (bl s)[k]? = some s[k] := by rw [List.getElem?_eq_getElem (by rw [bl_length]; exact h)]; rfl
  rw [this] at hb; rw [Option.some.inj hb]

set_option maxHeartbeats 1600000 in
set_option maxRecDepth 100000 in
/-- (Cid).Version of one of version 0. -/
theorem cidVer0_calls (s : ByteArray) (w : World) (hs : s.size = 34) (h0 : (bl s)[0]? = some 18) (h1 : (bl s)[1]? = some 32) :
    Calls Tryz.prog 104 #[.agg #[.string s]] w fun e w' => e = .returned (.int .u64 0) ∧ Below w.heap.size w w' := by
  have k0 : s[0].toNat = 18 := bl_at (by omega) h0
  have k1 : s[1].toNat = 32 := bl_at (by omega) h1
  clear h0 h1
  go_enter Tryz.func104, Tryz.ntmps104
  go_wp2
  go_ret
  exact ⟨rfl, bel_alloc (Below.refl _ _) _⟩

set_option maxHeartbeats 1600000 in
set_option maxRecDepth 100000 in
/-- (Cid).Version of one of version 1. -/
theorem cidVer1_calls (s : ByteArray) (w : World) (hs : 0 < s.size) (h0 : (bl s)[0]? = some 1) :
    Calls Tryz.prog 104 #[.agg #[.string s]] w fun e w' => e = .returned (.int .u64 1) ∧ Below w.heap.size w w' := by
  have k0 : s[0].toNat = 1 := bl_at (by omega) h0
  clear h0
  by_cases h34 : s.size = 34
  · go_enter Tryz.func104, Tryz.ntmps104
    go_wp2
    go_ret
    exact ⟨rfl, bel_alloc (Below.refl _ _) _⟩
  · have q1 : ((s.size : Int) == 34) = false := beq_eq_false_iff_ne.2 (by omega)
    go_enter Tryz.func104, Tryz.ntmps104
    go_wp2
    go_ret
    exact ⟨rfl, bel_alloc (Below.refl _ _) _⟩

set_option maxHeartbeats 1600000 in
set_option maxRecDepth 100000 in
/-- (Cid).Defined. -/
theorem cidDef_calls (s : ByteArray) (w : World) (hs : 0 < s.size) :
    Calls Tryz.prog 132 #[.agg #[.string s]] w fun e w' => e = .returned (.bool true) ∧ Below w.heap.size w w' := by
  have hne : s.toList.isEmpty = false := by
    rw [← strB_bl s, strB_toList]
    cases hb : bl s with
    | nil => have := bl_length s; rw [hb] at this; simp at this; omega
    | cons => rfl
  go_enter Tryz.func132, Tryz.ntmps132
  go_wp2
  go_ret
  exact ⟨rfl, bel_alloc (Below.refl _ _) _⟩











set_option maxHeartbeats 1600000 in
set_option maxRecDepth 100000 in
/-- (Cid).Prefix of one of version 0. -/
theorem cidPre0_calls (s : ByteArray) (w : World) (hs : s.size = 34) (h0 : (bl s)[0]? = some 18) (h1 : (bl s)[1]? = some 32) :
    Calls Tryz.prog 79 #[.agg #[.string s]] w fun e w' => e = .returned (.agg #[.int .u64 0, .int .u64 112, .int .u64 18, .int .i64 32]) ∧ Below w.heap.size w w' := by
  have HV := Kp.mk (fun w => cidVer0_calls s w hs h0 h1)
  clear hs h0 h1
  go_enter Tryz.func79, Tryz.ntmps79
  go_wp2_with fail
  refine (HV.out _).mono ?_
  rintro e w1 ⟨rfl, hb⟩
  have HB := Kp.mk (bel_new2 hb)
  have HG := Kp.mk (blk_new2 hb)
  clear hb
  have hc0 := blk_cell HG.out 0
  have hc1 := blk_cell HG.out 1
  have hc2 := blk_cell HG.out 2
  have hc3 := blk_cell HG.out 3
  have hf0 := blk_frozen HG.out 0
  have hf1 := blk_frozen HG.out 1
  have hf2 := blk_frozen HG.out 2
  have hf3 := blk_frozen HG.out 3
  go_wp2_with fail
  refine bodyPost_ret (res_cell1 rfl _ _ (w.heap.size + 1) 163 #[.int .u64 0, .int .u64 112, .int .u64 18, .int .i64 32] _ rfl (blk_set (blk_set (blk_set (blk_set HG.out 0 _) 1 _) 2 _) 3 _) Tryz.underlying163 rfl (by kernel_rfl)) rfl ?_
  exact ⟨rfl, bel_set (bel_set (bel_set (bel_set HB.out (Nat.le_succ _) _) (Nat.le_succ _) _) (Nat.le_succ _) _) (Nat.le_succ _) _⟩

/-- A text that reads as an identifier of version 1. -/
structure CidS (s : ByteArray) (codec code : Nat) (d : List UInt8) (m k : Nat) : Prop where
  bytes : bl s = cdBytes codec code d
  size : s.size ≤ 2147483647
  m : (Lib.uvarint codec).length = m
  k : (Lib.uvarint code).length = k
  codec : codec < 2 ^ 63
  code : code < 2 ^ 63
theorem CidS.len {s : ByteArray} {codec code : Nat} {d : List UInt8} {m k : Nat} (h : CidS s codec code d m k) : s.size = 1 + m + k + (Lib.uvarint d.length).length + d.length := by
  rw [← bl_length, h.bytes]; simp only [cdBytes, mhBytes, List.length_cons, List.length_append, h.m, h.k]; omega
theorem CidS.zero {s : ByteArray} {codec code : Nat} {d : List UInt8} {m k : Nat} (h : CidS s codec code d m k) : (bl s)[0]? = some 1 := by rw [h.bytes]; rfl
theorem CidS.dlt {s : ByteArray} {codec code : Nat} {d : List UInt8} {m k : Nat} (h : CidS s codec code d m k) : d.length ≤ 2147483647 := by have := h.len; have := h.size; omega
theorem cut_bl (s : ByteArray) (a : Nat) : bl (s.extract a s.size) = (bl s).drop a := by
  rw [bl_extract, List.take_of_length_le (by rw [bl_length]; omega)]
theorem CidS.r0 {s : ByteArray} {codec code : Nat} {d : List UInt8} {m k : Nat} (h : CidS s codec code d m k) : uvRead (bl s) = some (1, 1) := by
  have := uvRead_uvarint (x := 1) (Lib.uvarint codec ++ mhBytes code d) (by rw [uvarint_one]; decide)
  rw [uvarint_one] at this
  rw [h.bytes]; exact this
theorem CidS.d1 {s : ByteArray} {codec code : Nat} {d : List UInt8} {m k : Nat} (h : CidS s codec code d m k) : (bl s).drop 1 = Lib.uvarint codec ++ mhBytes code d := by rw [h.bytes]; rfl
theorem CidS.r1 {s : ByteArray} {codec code : Nat} {d : List UInt8} {m k : Nat} (h : CidS s codec code d m k) : uvRead ((bl s).drop 1) = some (codec, m) := by
  rw [h.d1, uvRead_uvarint _ (uvarint_lt63 h.codec), h.m]
theorem CidS.d2 {s : ByteArray} {codec code : Nat} {d : List UInt8} {m k : Nat} (h : CidS s codec code d m k) : (bl s).drop (1 + m) = mhBytes code d := by
  rw [← List.drop_drop, h.d1, List.drop_left' h.m]
theorem CidS.r2 {s : ByteArray} {codec code : Nat} {d : List UInt8} {m k : Nat} (h : CidS s codec code d m k) : uvRead ((bl s).drop (1 + m)) = some (code, k) := by
  rw [h.d2, mhBytes, List.append_assoc, uvRead_uvarint _ (uvarint_lt63 h.code), h.k]
theorem CidS.r3 {s : ByteArray} {codec code : Nat} {d : List UInt8} {m k : Nat} (h : CidS s codec code d m k) : uvRead ((bl s).drop (1 + m + k)) = some (d.length, (Lib.uvarint d.length).length) := by
  rw [← List.drop_drop, h.d2, mhBytes, List.append_assoc, List.drop_left' h.k, uvRead_uvarint _ (uvarint_lt63 (by have := h.dlt; omega))]
theorem CidS.mh {s : ByteArray} {codec code : Nat} {d : List UInt8} {m k : Nat} (h : CidS s codec code d m k) : mhRead ((bl s).drop (1 + m)) = some (code, d, (mhBytes code d).length) := by
  have := mhRead_mhBytes (code := code) (d := d) [] h.code (by have := h.dlt; omega)
  rw [List.append_nil] at this
  rw [h.d2, this]

set_option maxHeartbeats 1600000 in
set_option maxRecDepth 100000 in
/-- (Cid).Prefix of one of version 1. -/
theorem cidPre1_calls (s : ByteArray) (codec code : Nat) (d : List UInt8) (m k : Nat) (w : World) (h : CidS s codec code d m k) :
    Calls Tryz.prog 79 #[.agg #[.string s]] w fun e w' => e = .returned (.agg #[.int .u64 1, .int .u64 codec, .int .u64 code, .int .i64 d.length]) ∧ Below w.heap.size w w' := by
  have hlen := h.len
  have hsz := h.size
  have hdl := h.dlt
  have HV := Kp.mk (fun w => cidVer1_calls s w (by omega) h.zero)
  have HU0 := Kp.mk (fun w => cidUv_calls s 1 1 w (by omega) h.r0)
  have HU1 := Kp.mk (fun w => cidUv_calls (s.extract 1 s.size) codec m w (by rw [ByteArray.size_extract]; omega) (by rw [cut_bl]; exact h.r1))
  have HU2 := Kp.mk (fun w => cidUv_calls (s.extract (1 + m) s.size) code k w (by rw [ByteArray.size_extract]; omega) (by rw [cut_bl]; exact h.r2))
  have HU3 := Kp.mk (fun w => cidUv_calls (s.extract (1 + m + k) s.size) d.length (Lib.uvarint d.length).length w (by rw [ByteArray.size_extract]; omega) (by rw [cut_bl]; exact h.r3))
  have hm : 1 + m ≤ s.size := by omega
  have hk : 1 + m + k ≤ s.size := by omega
  have h1s : 1 ≤ s.size := by omega
  clear h hlen
  generalize (Lib.uvarint d.length).length = j at *
  go_enter Tryz.func79, Tryz.ntmps79
  go_wp2_with fail
  refine (HV.out _).mono ?_
  rintro e w1 ⟨rfl, hb⟩
  have HB := Kp.mk (bel_new2 hb)
  have HG := Kp.mk (blk_new2 hb)
  have HG0 := Kp.mk (blk_new (o := .cells #[.string s] 135) (bel_then (bel_alloc (Below.refl _ _) _) hb))
  clear hb
  have hs0 := blk_cell HG0.out 0
  have hc0 := blk_cell HG.out 0
  have hc1 := blk_cell HG.out 1
  have hc2 := blk_cell HG.out 2
  have hc3 := blk_cell HG.out 3
  have hf0 := blk_frozen HG.out 0
  have hf1 := blk_frozen HG.out 1
  have hf2 := blk_frozen HG.out 2
  have hf3 := blk_frozen HG.out 3
  go_wp2_with fail
  refine (HU0.out _).mono ?_
  rintro e w2 ⟨rfl, rfl⟩
  go_wp2_with fail
  refine (HU1.out _).mono ?_
  rintro e w2 ⟨rfl, rfl⟩
  go_wp2_with fail
  refine (HU2.out _).mono ?_
  rintro e w2 ⟨rfl, rfl⟩
  go_wp2_with fail
  refine (HU3.out _).mono ?_
  rintro e w2 ⟨rfl, rfl⟩
  go_wp2_with fail
  refine bodyPost_ret (res_cell1 rfl _ _ (w.heap.size + 1) 163 #[.int .u64 1, .int .u64 codec, .int .u64 code, .int .i64 d.length] _ rfl (blk_set (blk_set (blk_set (blk_set HG.out 0 _) 1 _) 2 _) 3 _) Tryz.underlying163 rfl (by kernel_rfl)) rfl ?_
  exact ⟨rfl, bel_set (bel_set (bel_set (bel_set HB.out (Nat.le_succ _) _) (Nat.le_succ _) _) (Nat.le_succ _) _) (Nat.le_succ _) _⟩

set_option maxHeartbeats 1600000 in
set_option maxRecDepth 100000 in
/-- (Cid).Bytes. -/
theorem cidByt_calls (s : ByteArray) (w : World) (h0 : 0 < s.size) (hs : s.size ≤ 2147483647) :
    Calls Tryz.prog 107 #[.agg #[.string s]] w fun e w' => (∃ g c, e = .returned (.slice (some ⟨g, 0, none⟩) s.size c) ∧ RdB w' (some ⟨g, 0, none⟩) s.size c (bl s)) ∧ Below w.heap.size w w' := by
  have hkb := fun W => Lib.run_convert_string_bytes (P := Tryz.prog) W 9 67 5 s Tryz.underlying9 Tryz.underlying67 Tryz.underlying5
  have HD := Kp.mk (fun w => cidDef_calls s w h0)
  have HR := Kp.mk (fun W => rd_bytes W 5 s (by omega))
  clear h0 hs
  go_enter Tryz.func107, Tryz.ntmps107
  go_wp2_with fail
  refine (HD.out _).mono ?_
  rintro e w1 ⟨rfl, hb⟩
  have HB := Kp.mk (bel_new hb)
  have HG := Kp.mk (blk_new hb)
  clear hb
  have hs0 := blk_cell HG.out 0
  go_wp2_with fail
  go_ret
  exact ⟨⟨_, _, rfl, HR.out _⟩, bel_bytes HB.out _ _⟩

set_option maxHeartbeats 1600000 in
set_option maxRecDepth 100000 in
/-- (Cid).Hash of one of version 0. -/
theorem cidHash0_calls (s : ByteArray) (w : World) (hs : s.size = 34) (h0 : (bl s)[0]? = some 18) (h1 : (bl s)[1]? = some 32) :
    Calls Tryz.prog 81 #[.agg #[.string s]] w fun e w' => (∃ A c, e = .returned (.slice A s.size c) ∧ RdB w' A s.size c (bl s)) ∧ Below w.heap.size w w' := by
  have HV := Kp.mk (fun w => cidVer0_calls s w hs h0 h1)
  have HB := Kp.mk (fun w => cidByt_calls s w (by omega) (by omega))
  clear hs h0 h1
  go_enter Tryz.func81, Tryz.ntmps81
  go_wp2_with fail
  refine (HB.out _).mono ?_
  rintro e w1 ⟨⟨g, c, rfl, hr⟩, hb⟩
  have HB1 := Kp.mk (bel_new hb)
  have HG := Kp.mk (blk_new hb)
  have HR := Kp.mk hr
  clear hb hr
  have hs0 := blk_cell HG.out 0
  go_wp2_with fail
  refine (HV.out _).mono ?_
  rintro e w2 ⟨rfl, hb⟩
  have HB2 := Kp.mk (bel_then HB1.out hb)
  have HR2 := Kp.mk (HR.out.below hb)
  clear hb
  go_wp2_with fail
  go_ret
  exact ⟨⟨_, _, rfl, HR2.out⟩, HB2.out⟩

end Go.Proofs.YtkcpgcaccgahaaaGreatDoor
namespace Go.Proofs.YtkcpgcaccgahaaaGreatDoor
open Go.RowKit

set_option maxHeartbeats 400000 in
set_option maxRecDepth 100000 in
/-- (Cid).Hash of one of version 1. -/
theorem cidHash1_calls (s : ByteArray) (codec code : Nat) (d : List UInt8) (m k : Nat) (w : World) (h : CidS s codec code d m k) (he : UvErrs w) :
    Calls Tryz.prog 81 #[.agg #[.string s]] w fun e w' => (∃ A c, e = .returned (.slice A (s.size - (1 + m)) c) ∧ RdB w' A (s.size - (1 + m)) c ((bl s).drop (1 + m))) ∧ Below w.heap.size w w' := by
  have hlen := h.len
  have hsz := h.size
  have HS := Kp.mk h
  have HV := Kp.mk (fun w => cidVer1_calls s w (by omega) h.zero)
  have HB := Kp.mk (fun w => cidByt_calls s w (by omega) (by omega))
  have HE := Kp.mk he
  have hm1 : 1 + m ≤ s.size := by omega
  clear h hlen he
  go_enter Tryz.func81, Tryz.ntmps81
  go_wp2_with fail
  refine (HB.out _).mono ?_
  rintro e w1 ⟨⟨g, c, rfl, hr⟩, hb⟩
  have HB1 := Kp.mk (bel_new hb)
  have HG := Kp.mk (blk_new hb)
  have HR := Kp.mk hr
  clear hb hr
  have hs0 := blk_cell HG.out 0
  go_wp2_with fail
  refine (HV.out _).mono ?_
  rintro e w2 ⟨rfl, hb⟩
  have HB2 := Kp.mk (bel_then HB1.out hb)
  have HR2 := Kp.mk (HR.out.below hb)
  clear hb
  have HF1 := fromUv_calls _ _ _ _ w2 HR2.out (HE.out.below HB2.out)
  rw [HS.out.r0] at HF1
  have HF1 := Kp.mk HF1
  go_wp2_with fail
  refine HF1.out.mono ?_
  rintro e w3 ⟨hu, hb⟩
  obtain rfl : e = _ := hu
  have HB3 := Kp.mk (bel_then HB2.out hb)
  have HR3 := Kp.mk (HR2.out.below hb)
  clear hb HF1
  obtain ⟨A', hcut, hp⟩ := rd_cut 67 .i64 Tryz.underlying67 (some ⟨g, 0, none⟩) s.size c 1 (by omega)
  rw [show ((1 : Nat) : Int) = 1 from rfl] at hcut
  have HF2 := fromUv_calls _ _ _ _ w3 (hp _ _ HR3.out) (HE.out.below HB3.out)
  rw [HS.out.r1] at HF2
  have HF2 := Kp.mk HF2
  clear hp
  go_wp2_with fail
  refine HF2.out.mono ?_
  rintro e w4 ⟨hu, hb⟩
  obtain rfl : e = _ := hu
  have HB4 := Kp.mk (bel_then HB3.out hb)
  have HR4 := Kp.mk (HR3.out.below hb)
  clear hb HF2 hcut
  obtain ⟨A2, hcut2, hp2⟩ := rd_cut 67 .i64 Tryz.underlying67 (some ⟨g, 0, none⟩) s.size c (1 + m) hm1
  have HP2 := Kp.mk hp2
  have hi : ((1 + m : Nat) : Int) = 1 + (m : Int) := by omega
  rw [hi] at hcut2
  clear hp2
  go_wp2_with fail
  go_ret
  exact ⟨⟨_, _, rfl, HP2.out _ _ HR4.out⟩, HB4.out⟩

end Go.Proofs.YtkcpgcaccgahaaaGreatDoor
