/- What is read stands as it is written: varints, multihashes, identifiers. No program in sight. -/
import Derived.Test.YtdppnlomhlnbkaaDoorMhMath
namespace Go.Proofs.YtdppnlomhlnbkaaDoor
open Go.Lib

theorem uvFrom_inv : ∀ (l : List UInt8) (i acc x n : Nat), acc < 2 ^ (7 * i) → uvFrom i acc l = some (x, n) →
    ∃ y, x = acc + y * 2 ^ (7 * i) ∧ l = uvarint y ++ l.drop (n - i) ∧ (uvarint y).length = n - i ∧ (0 < i → y ≠ 0)
  | [], _, _, _, _, _, h => by simp [uvFrom] at h
  | b :: r, i, acc, x, n, ha, h => by
    rw [uvFrom] at h
    have hb := b.toNat_lt
    split at h
    · cases h
    · rename_i h1
      split at h
      · rename_i h2
        split at h
        · cases h
        · rename_i h3
          simp only [Option.some.injEq, Prod.mk.injEq] at h
          obtain ⟨rfl, rfl⟩ := h
          have hu : uvarint b.toNat = [b] := by rw [uvarint_small h2]; simp
          refine ⟨b.toNat, rfl, ?_, ?_, fun hi h0 => h3 ⟨h0, hi⟩⟩
          · rw [hu, show i + 1 - i = 1 by omega]; rfl
          · rw [hu, show i + 1 - i = 1 by omega]; rfl
      · rename_i h2
        have hm : 2 ^ (7 * (i + 1)) = 128 * 2 ^ (7 * i) := by rw [show 7 * (i + 1) = 7 + 7 * i from by omega, Nat.pow_add]
        have h5 : (b.toNat % 128) * 2 ^ (7 * i) ≤ 127 * 2 ^ (7 * i) := Nat.mul_le_mul_right _ (by omega)
        have hacc : acc + (b.toNat % 128) * 2 ^ (7 * i) < 2 ^ (7 * (i + 1)) := by rw [hm]; omega
        obtain ⟨y, hx, hl, hlen, hne⟩ := uvFrom_inv r (i + 1) _ x n hacc h
        have hin := uvFrom_some r (i + 1) _ x n hacc h
        have hy0 : y ≠ 0 := hne (by omega)
        have hbig : uvarint (b.toNat % 128 + 128 * y) = b :: uvarint y := by
          rw [uvarint_big (by omega), show (b.toNat % 128 + 128 * y) / 128 = y by omega, show (b.toNat % 128 + 128 * y) % 128 + 128 = b.toNat by omega]
          simp
        refine ⟨b.toNat % 128 + 128 * y, ?_, ?_, ?_, fun _ => by omega⟩
        · rw [hx, hm, Nat.add_mul, Nat.add_assoc]
          congr 2
          rw [← Nat.mul_assoc, Nat.mul_comm 128 y]
        · rw [hbig, show n - i = (n - (i + 1)) + 1 by omega, List.drop_succ_cons, List.cons_append, ← hl]
        · rw [hbig, List.length_cons, hlen]; omega

theorem uvRead_inv {bs : List UInt8} {x n : Nat} (h : uvRead bs = some (x, n)) : bs = uvarint x ++ bs.drop n ∧ (uvarint x).length = n ∧ x < 2 ^ 63 := by
  obtain ⟨y, hx, hl, hlen, _⟩ := uvFrom_inv bs 0 0 x n (by simp) h
  have hxy : x = y := by rw [hx]; simp
  subst hxy
  exact ⟨hl, hlen, (uvRead_some h).2.2.2⟩

theorem mhRead_inv {bs : List UInt8} {code n : Nat} {d : List UInt8} (h : mhRead bs = some (code, d, n)) : bs = mhBytes code d ++ bs.drop n ∧ (mhBytes code d).length = n ∧ code < 2 ^ 63 ∧ d.length < 2 ^ 63 := by
  unfold mhRead at h
  split at h
  · cases h
  · rename_i code' k h1
    split at h
    · cases h
    · rename_i size m h2
      split at h
      · cases h
      · rename_i h3
        simp only [Option.some.injEq, Prod.mk.injEq] at h
        obtain ⟨rfl, rfl, rfl⟩ := h
        obtain ⟨e1, l1, b1⟩ := uvRead_inv h1
        obtain ⟨e2, l2, b2⟩ := uvRead_inv h2
        rw [List.drop_drop] at e2
        have hlen : ((bs.drop (k + m)).take size).length = size := by rw [List.length_take, List.length_drop]; omega
        refine ⟨?_, ?_, b1, by rw [hlen]; exact b2⟩
        · rw [mhBytes, hlen, List.append_assoc, List.append_assoc, show bs.drop (k + m + size) = (bs.drop (k + m)).drop size by rw [List.drop_drop], List.take_append_drop, ← e2]
          exact e1
        · rw [mhBytes, List.length_append, List.length_append, hlen, l1, l2]

/-- An identifier's bytes, of version 1. -/
def cdBytes (codec code : Nat) (d : List UInt8) : List UInt8 := 1 :: (uvarint codec ++ mhBytes code d)

/-- Begins as one of version 0. -/
def cdZero (bs : List UInt8) : Prop := 2 < bs.length ∧ bs[0]? = some 18 ∧ bs[1]? = some 32
instance (bs : List UInt8) : Decidable (cdZero bs) := by unfold cdZero; infer_instance

/-- The identifier with which a text begins: version, codec, hash function, digest, how many bytes. -/
def cdRead (bs : List UInt8) : Option (Nat × Nat × Nat × List UInt8 × Nat) :=
  if cdZero bs then (if bs.length < 34 then none else some (0, 112, 18, (bs.drop 2).take 32, 34))
  else match uvRead bs with
  | none => none
  | some (v, k) => if v = 1 then (match uvRead (bs.drop k) with
    | none => none
    | some (codec, m) => match mhRead (bs.drop (k + m)) with
      | none => none
      | some (code, d, n) => some (1, codec, code, d, k + m + n)) else none

theorem uvarint_one : uvarint 1 = [1] := by rw [uvarint_small (by omega)]; rfl
/-- What stands there where one of version 1 is read. -/
theorem cd_inv {bs : List UInt8} {k codec m code n : Nat} {d : List UInt8} (h1 : uvRead bs = some (1, k)) (h2 : uvRead (bs.drop k) = some (codec, m)) (h3 : mhRead (bs.drop (k + m)) = some (code, d, n)) :
    bs.take (k + m + n) = cdBytes codec code d ∧ (cdBytes codec code d).length = k + m + n ∧ k = 1 ∧ (uvarint codec).length = m ∧ codec < 2 ^ 63 ∧ code < 2 ^ 63 ∧ d.length < 2 ^ 63 := by
  obtain ⟨e1, l1, b1⟩ := uvRead_inv h1
  obtain ⟨e2, l2, b2⟩ := uvRead_inv h2
  obtain ⟨e3, l3, b3, b4⟩ := mhRead_inv h3
  rw [List.drop_drop] at e2
  have hb : bs = cdBytes codec code d ++ bs.drop (k + m + n) := by
    rw [List.drop_drop] at e3
    have : bs = uvarint 1 ++ (uvarint codec ++ (mhBytes code d ++ bs.drop (k + m + n))) := by rw [← e3, ← e2]; exact e1
    rw [this]
    conv => rhs; rw [← this]
    simp [cdBytes, uvarint_one]
  have hl : (cdBytes codec code d).length = k + m + n := by
    rw [uvarint_one] at l1
    simp only [cdBytes, List.length_cons, List.length_append, l2, l3]
    simp at l1; omega
  refine ⟨?_, hl, by rw [uvarint_one] at l1; simpa using l1.symm, l2, b2, b3, b4⟩
  rw [← hl]
  conv => lhs; rw [hb]
  rw [List.take_left' rfl]

end Go.Proofs.YtdppnlomhlnbkaaDoor
