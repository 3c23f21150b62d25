/- What a reader of a multihash comes to. No program in sight. -/
import Derived.Test.YtnhnkfdhkifahaaGreatDoorMath
namespace Go.Proofs.YtnhnkfdhkifahaaGreatDoor
open Go.Lib

/-- The multihash with which bytes begin: its code, its digest, how many bytes it has. -/
def mhRead (bs : List UInt8) : Option (Nat × List UInt8 × Nat) :=
  match uvRead bs with
  | none => none
  | some (code, k) =>
    match uvRead (bs.drop k) with
    | none => none
    | some (size, m) => if bs.length - k - m < size then none else some (code, (bs.drop (k + m)).take size, k + m + size)

theorem mhRead_short {bs : List UInt8} (h : bs.length < 2) : mhRead bs = none := by
  unfold mhRead
  cases h1 : uvRead bs with
  | none => rfl
  | some p =>
    obtain ⟨code, k⟩ := p
    have hk := uvRead_some h1
    have : bs.drop k = [] := List.drop_of_length_le (by omega)
    simp only [this]
    rfl
theorem mhRead_none1 {bs : List UInt8} (h : uvRead bs = none) : mhRead bs = none := by simp [mhRead, h]
theorem mhRead_none2 {bs : List UInt8} {code k : Nat} (h : uvRead bs = some (code, k)) (h2 : uvRead (bs.drop k) = none) : mhRead bs = none := by simp [mhRead, h, h2]
theorem mhRead_none3 {bs : List UInt8} {code k size m : Nat} (h : uvRead bs = some (code, k)) (h2 : uvRead (bs.drop k) = some (size, m)) (h3 : bs.length - k - m < size) : mhRead bs = none := by simp [mhRead, h, h2, h3]
theorem mhRead_some' {bs : List UInt8} {code k size m : Nat} (h : uvRead bs = some (code, k)) (h2 : uvRead (bs.drop k) = some (size, m)) (h3 : size ≤ bs.length - k - m) :
    mhRead bs = some (code, (bs.drop (k + m)).take size, k + m + size) := by
  simp only [mhRead, h, h2]
  rw [if_neg (by omega)]
theorem mhRead_lt {bs : List UInt8} {code n : Nat} {d : List UInt8} (h : mhRead bs = some (code, d, n)) : code < 2 ^ 63 ∧ n ≤ bs.length ∧ d.length ≤ n := by
  unfold mhRead at h
  split at h
  · cases h
  · rename_i c k h1
    split at h
    · cases h
    · rename_i size m h2
      have a1 := uvRead_some h1
      have a2 := uvRead_some h2
      rw [List.length_drop] at a2
      split at h
      · cases h
      · simp only [Option.some.injEq, Prod.mk.injEq] at h
        obtain ⟨rfl, rfl, rfl⟩ := h
        refine ⟨a1.2.2.2, by omega, ?_⟩
        rw [List.length_take, List.length_drop]; omega

/-- A multihash's bytes. -/
def mhBytes (code : Nat) (d : List UInt8) : List UInt8 := uvarint code ++ uvarint d.length ++ d
theorem mhRead_mhBytes {code : Nat} {d : List UInt8} (more : List UInt8) (h : code < 2 ^ 63) (hd : d.length < 2 ^ 63) : mhRead (mhBytes code d ++ more) = some (code, d, (mhBytes code d).length) := by
  have h1 : uvRead (mhBytes code d ++ more) = some (code, (uvarint code).length) := by
    rw [mhBytes, List.append_assoc, List.append_assoc]; exact uvRead_uvarint _ (uvarint_lt63 h)
  have e : (mhBytes code d ++ more).drop (uvarint code).length = uvarint d.length ++ (d ++ more) := by
    simp [mhBytes]
  have h2 : uvRead ((mhBytes code d ++ more).drop (uvarint code).length) = some (d.length, (uvarint d.length).length) := by
    rw [e]; exact uvRead_uvarint _ (uvarint_lt63 hd)
  rw [mhRead_some' h1 h2 (by simp [mhBytes]), ← List.drop_drop, e]
  simp [mhBytes]; omega

end Go.Proofs.YtnhnkfdhkifahaaGreatDoor
