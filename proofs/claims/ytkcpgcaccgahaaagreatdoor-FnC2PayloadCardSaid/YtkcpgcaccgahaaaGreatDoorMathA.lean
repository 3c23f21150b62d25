/- Some texts in one: Math, MhMath. -/
import Derived.Lib.Varint
import Derived.Lib.VarintMem
import Derived.Lib.BitFns
namespace Go.Proofs.YtkcpgcaccgahaaaGreatDoor
open Go.Lib

/-- How many bytes a varint has, by the number's length in bits. -/
def uvSize (x : Nat) : Nat := bitLen x / 7 + if 0 < bitLen x % 7 ∨ bitLen x / 7 = 0 then 1 else 0

theorem bitLen_zero : bitLen 0 = 0 := by decide
theorem bitLen_pos {x : Nat} (h0 : x ≠ 0) (h : x < 2 ^ 64) : 1 ≤ bitLen x := by
  have := bitLen_half x h0 h; omega

theorem uvarint_len (x : Nat) : x < 2 ^ 64 → (uvarint x).length = uvSize x := by
  induction x using Nat.strongRecOn with
  | _ x ih =>
    intro hx
    by_cases h : x < 128
    · rw [uvarint_small h]
      have hb : bitLen x ≤ 7 := bitLen_le x 7 (by omega) (by omega)
      unfold uvSize
      by_cases h7 : bitLen x = 7
      · simp [h7]
      · have h1 : bitLen x / 7 = 0 := by omega
        simp [h1]
    · have h1 := bitLen_shift 7 x (by omega) hx
      have h2 : 2 ^ 7 = 128 := rfl
      rw [h2] at h1
      have hp : 1 ≤ bitLen (x / 128) := bitLen_pos (by omega) (by omega)
      rw [uvarint_big (by omega), List.length_cons, ih (x / 128) (by omega) (by omega)]
      unfold uvSize
      rw [h1, show (7 + bitLen (x / 128)) / 7 = bitLen (x / 128) / 7 + 1 from by omega, show (7 + bitLen (x / 128)) % 7 = bitLen (x / 128) % 7 from by omega]
      by_cases hq : bitLen (x / 128) / 7 = 0
      · have hr : 0 < bitLen (x / 128) % 7 := by omega
        simp [hq, hr]
      · by_cases hr : 0 < bitLen (x / 128) % 7
        · simp [hr]
        · simp [hq, hr]

theorem uvSize_le {x : Nat} (h : x < 2 ^ 64) : uvSize x ≤ 10 := by
  rw [← uvarint_len x h]; exact uvarint_length64 h
theorem uvSize_pos {x : Nat} (h : x < 2 ^ 64) : 1 ≤ uvSize x := by
  rw [← uvarint_len x h]; exact uvarint_pos x

/-- What a reader of an unsigned varint comes to from its i-th byte on: at most nine bytes, no needless zero at the end. -/
def uvFrom (i acc : Nat) : List UInt8 → Option (Nat × Nat)
  | [] => none
  | b :: r =>
    if (i = 8 ∧ 128 ≤ b.toNat) ∨ 9 ≤ i then none
    else if b.toNat < 128 then (if b.toNat = 0 ∧ 0 < i then none else some (acc + b.toNat * 2 ^ (7 * i), i + 1))
    else uvFrom (i + 1) (acc + (b.toNat % 128) * 2 ^ (7 * i)) r

def uvRead (l : List UInt8) : Option (Nat × Nat) := uvFrom 0 0 l

theorem uvFrom_some : ∀ (l : List UInt8) (i acc x n : Nat), acc < 2 ^ (7 * i) → uvFrom i acc l = some (x, n) → i < n ∧ n ≤ i + l.length ∧ n ≤ 9 ∧ x < 2 ^ (7 * n)
  | [], _, _, _, _, _, h => by simp [uvFrom] at h
  | b :: r, i, acc, x, n, hacc, h => by
    have hb : b.toNat < 256 := b.toNat_lt
    unfold uvFrom at h
    by_cases h1 : (i = 8 ∧ 128 ≤ b.toNat) ∨ 9 ≤ i
    · rw [if_pos h1] at h; cases h
    · rw [if_neg h1] at h
      have e7 : 2 ^ (7 * (i + 1)) = 128 * 2 ^ (7 * i) := by rw [show 7 * (i + 1) = 7 + 7 * i from by omega, Nat.pow_add]
      by_cases h2 : b.toNat < 128
      · rw [if_pos h2] at h
        by_cases h3 : b.toNat = 0 ∧ 0 < i
        · rw [if_pos h3] at h; cases h
        · rw [if_neg h3] at h
          simp only [Option.some.injEq, Prod.mk.injEq] at h
          obtain ⟨rfl, rfl⟩ := h
          refine ⟨by omega, by simp, by omega, ?_⟩
          rw [e7]
          have : b.toNat * 2 ^ (7 * i) ≤ 127 * 2 ^ (7 * i) := Nat.mul_le_mul_right _ (by omega)
          omega
      · rw [if_neg h2] at h
        have hm : (b.toNat % 128) * 2 ^ (7 * i) ≤ 127 * 2 ^ (7 * i) := Nat.mul_le_mul_right _ (by omega)
        have := uvFrom_some r (i + 1) _ x n (by rw [e7]; omega) h
        simp only [List.length_cons]
        omega

theorem uvRead_some {l : List UInt8} {x n : Nat} (h : uvRead l = some (x, n)) : 1 ≤ n ∧ n ≤ l.length ∧ n ≤ 9 ∧ x < 2 ^ 63 := by
  have h1 := uvFrom_some l 0 0 x n (by simp) h
  have h2 : 2 ^ (7 * n) ≤ 2 ^ 63 := Nat.pow_le_pow_right (by omega) (by omega)
  omega

/-- A number's varint, with whatever behind it, is read from byte i on: i bytes have been read before it, and it is not 0 if i is not 0. -/
theorem uvFrom_uvarint : ∀ (x i acc : Nat) (more : List UInt8), (0 < i → x ≠ 0) → (uvarint x).length + i ≤ 9 → uvFrom i acc (uvarint x ++ more) = some (acc + x * 2 ^ (7 * i), (uvarint x).length + i) := by
  intro x
  induction x using Nat.strongRecOn with
  | _ x ih =>
    intro i acc more h0 hl
    by_cases h : x < 128
    · rw [uvarint_small h] at hl ⊢
      have ht : (x.toUInt8).toNat = x := toUInt8_toNat (by omega)
      simp only [List.cons_append, List.nil_append, uvFrom, ht]
      simp only [List.length_cons, List.length_nil] at hl ⊢
      rw [if_neg (by omega), if_pos h, if_neg (by intro ⟨h1, h2⟩; exact h0 h2 h1)]
      simp; omega
    · rw [uvarint_big (by omega)] at hl ⊢
      have ht : ((x % 128 + 128).toUInt8).toNat = x % 128 + 128 := toUInt8_toNat (by omega)
      have hp := uvarint_pos (x / 128)
      simp only [List.length_cons] at hl
      simp only [List.cons_append, uvFrom, ht, List.length_cons]
      rw [if_neg (by omega), if_neg (by omega), ih (x / 128) (by omega) (i + 1) _ more (by omega) (by omega)]
      have e7 : 2 ^ (7 * (i + 1)) = 128 * 2 ^ (7 * i) := by rw [show 7 * (i + 1) = 7 + 7 * i from by omega, Nat.pow_add]
      have e8 : (x % 128 + 128) % 128 = x % 128 := by omega
      rw [e7, e8, ← Nat.mul_assoc, Nat.add_assoc acc, ← Nat.add_mul, show x % 128 + x / 128 * 128 = x from by omega]
      simp; omega

theorem uvRead_uvarint {x : Nat} (more : List UInt8) (h : (uvarint x).length ≤ 9) : uvRead (uvarint x ++ more) = some (x, (uvarint x).length) := by
  unfold uvRead
  rw [uvFrom_uvarint x 0 0 more (by omega) (by omega)]
  simp

/-- Below 2^63 a varint has at most nine bytes; from there on ten. -/
theorem uvarint_lt63 {x : Nat} (h : x < 2 ^ 63) : (uvarint x).length ≤ 9 := uvarint_length 8 x (by omega)
theorem uvarint_ge : ∀ (k x : Nat), 128 ^ k ≤ x → k + 1 ≤ (uvarint x).length
  | 0, x, _ => uvarint_pos x
  | k + 1, x, h => by
    have hk : 1 ≤ 128 ^ k := Nat.pos_of_ne_zero (by simp)
    rw [Nat.pow_succ] at h
    rw [uvarint_big (by omega), List.length_cons]
    have := uvarint_ge k (x / 128) (by omega)
    omega
theorem uvarint_ge63 {x : Nat} (h : 2 ^ 63 ≤ x) (hx : x < 2 ^ 64) : (uvarint x).length = 10 := by
  have h1 := uvarint_ge 9 x (by omega)
  have h2 := uvarint_length64 hx
  omega

/-- A varint of more than nine bytes is an error when it is read. -/
theorem uvFrom_long : ∀ (x i acc : Nat) (more : List UInt8), i ≤ 9 → 9 < (uvarint x).length + i → uvFrom i acc (uvarint x ++ more) = none := by
  intro x
  induction x using Nat.strongRecOn with
  | _ x ih =>
    intro i acc more hi hl
    by_cases h : x < 128
    · rw [uvarint_small h] at hl ⊢
      simp only [List.length_cons, List.length_nil] at hl
      simp only [List.cons_append, List.nil_append, uvFrom]
      rw [if_pos (by omega)]
    · rw [uvarint_big (by omega)] at hl ⊢
      have ht : ((x % 128 + 128).toUInt8).toNat = x % 128 + 128 := toUInt8_toNat (by omega)
      simp only [List.length_cons] at hl
      simp only [List.cons_append, uvFrom, ht]
      by_cases h8 : 8 ≤ i
      · rw [if_pos (by omega)]
      · rw [if_neg (by omega), if_neg (by omega)]
        exact ih (x / 128) (by omega) (i + 1) _ more (by omega) (by omega)

theorem uvRead_long {x : Nat} (more : List UInt8) (h : 9 < (uvarint x).length) : uvRead (uvarint x ++ more) = none :=
  uvFrom_long x 0 0 more (by omega) (by omega)

end Go.Proofs.YtkcpgcaccgahaaaGreatDoor
namespace Go.Proofs.YtkcpgcaccgahaaaGreatDoor
open Go.Lib

/-- The multihash with which bytes begin: its code, its digest, how many bytes it has. -/
def mhRead (bs : List UInt8) : Option (Nat × List UInt8 × Nat) :=
  match uvRead bs with
  | none => none
  | some (code, k) =>
    match uvRead (bs.drop k) with
    | none => none
    | some (size, m) => if bs.length - k - m < size then none else some (code, (bs.drop (k + m)).take size, k + m + size)

theorem mhRead_short {bs : List UInt8} (h : bs.length < 2) : mhRead bs = none := by
  unfold mhRead
  cases h1 : uvRead bs with
  | none => rfl
  | some p =>
    obtain ⟨code, k⟩ := p
    have hk := uvRead_some h1
    have : bs.drop k = [] := List.drop_of_length_le (by omega)
    simp only [this]
    rfl
theorem mhRead_none1 {bs : List UInt8} (h : uvRead bs = none) : mhRead bs = none := by simp [mhRead, h]
theorem mhRead_none2 {bs : List UInt8} {code k : Nat} (h : uvRead bs = some (code, k)) (h2 : uvRead (bs.drop k) = none) : mhRead bs = none := by simp [mhRead, h, h2]
theorem mhRead_none3 {bs : List UInt8} {code k size m : Nat} (h : uvRead bs = some (code, k)) (h2 : uvRead (bs.drop k) = some (size, m)) (h3 : bs.length - k - m < size) : mhRead bs = none := by simp [mhRead, h, h2, h3]
theorem mhRead_some' {bs : List UInt8} {code k size m : Nat} (h : uvRead bs = some (code, k)) (h2 : uvRead (bs.drop k) = some (size, m)) (h3 : size ≤ bs.length - k - m) :
    mhRead bs = some (code, (bs.drop (k + m)).take size, k + m + size) := by
  simp only [mhRead, h, h2]
  rw [if_neg (by omega)]
theorem mhRead_lt {bs : List UInt8} {code n : Nat} {d : List UInt8} (h : mhRead bs = some (code, d, n)) : code < 2 ^ 63 ∧ n ≤ bs.length ∧ d.length ≤ n := by
  unfold mhRead at h
  split at h
  · cases h
  · rename_i c k h1
    split at h
    · cases h
    · rename_i size m h2
      have a1 := uvRead_some h1
      have a2 := uvRead_some h2
      rw [List.length_drop] at a2
      split at h
      · cases h
      · simp only [Option.some.injEq, Prod.mk.injEq] at h
        obtain ⟨rfl, rfl, rfl⟩ := h
        refine ⟨a1.2.2.2, by omega, ?_⟩
        rw [List.length_take, List.length_drop]; omega

/-- A multihash's bytes. -/
def mhBytes (code : Nat) (d : List UInt8) : List UInt8 := uvarint code ++ uvarint d.length ++ d
theorem mhRead_mhBytes {code : Nat} {d : List UInt8} (more : List UInt8) (h : code < 2 ^ 63) (hd : d.length < 2 ^ 63) : mhRead (mhBytes code d ++ more) = some (code, d, (mhBytes code d).length) := by
  have h1 : uvRead (mhBytes code d ++ more) = some (code, (uvarint code).length) := by
    rw [mhBytes, List.append_assoc, List.append_assoc]; exact uvRead_uvarint _ (uvarint_lt63 h)
  have e : (mhBytes code d ++ more).drop (uvarint code).length = uvarint d.length ++ (d ++ more) := by
    simp [mhBytes]
  have h2 : uvRead ((mhBytes code d ++ more).drop (uvarint code).length) = some (d.length, (uvarint d.length).length) := by
    rw [e]; exact uvRead_uvarint _ (uvarint_lt63 hd)
  rw [mhRead_some' h1 h2 (by simp [mhBytes]), ← List.drop_drop, e]
  simp [mhBytes]; omega

end Go.Proofs.YtkcpgcaccgahaaaGreatDoor
