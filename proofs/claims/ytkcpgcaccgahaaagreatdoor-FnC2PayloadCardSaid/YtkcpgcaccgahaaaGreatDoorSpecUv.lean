/- The walks of the reference's functions that read varints and multihashes. -/
import Derived.Test.YtkcpgcaccgahaaaGreatDoorMhA
namespace Go.Proofs.YtkcpgcaccgahaaaGreatDoor
open Go.RowKit

/-- What spec.ReadVarint hands back. -/
def SvEnd (bs : List UInt8) (e : Ending) : Prop :=
  match uvRead bs with
  | some (x, n) => e = .returned (.tuple #[.int .u64 x, .int .i64 n, .int .i64 0])
  | none => ∃ y : Int, ((y == 0) = false) ∧ e = .returned (.tuple #[.int .u64 0, .int .i64 0, .int .i64 y])
theorem svEnd_none {bs : List UInt8} (h : uvRead bs = none) {y : Int} (hy : (y == 0) = false) : SvEnd bs (.returned (.tuple #[.int .u64 0, .int .i64 0, .int .i64 y])) := by
  unfold SvEnd; rw [h]; exact ⟨y, hy, rfl⟩
theorem svEnd_some {bs : List UInt8} {x n : Nat} {X N : Int} (h : uvRead bs = some (x, n)) (hx : X = (x : Int)) (hn : N = (n : Int)) : SvEnd bs (.returned (.tuple #[.int .u64 X, .int .i64 N, .int .i64 0])) := by
  subst hx hn; unfold SvEnd; rw [h]

theorem uv_or2 (acc k : Nat) (b : UInt8) (hk : k ≤ 8) (hacc : acc < 2 ^ (7 * k)) :
    bits .or .u64 (acc : Int) (IntKind.u64.wrap (IntKind.u64.wrap (bits .and .u8 (b.toNat : Int) 127) * 2 ^ (7 * k))) = ((acc + (b.toNat % 128) * 2 ^ (7 * k) : Nat) : Int) := by
  have hb := b.toNat_lt
  rw [u8_and127 _ (by omega) (by omega), u64_wrap_id ((b.toNat : Int) % 128) (by omega) (by omega)]
  exact uv_or acc (b.toNat % 128) k hk hacc (by omega)
theorem bl_drop (s : ByteArray) (k : Nat) (h : k < s.size) : (bl s).drop k = s[k] :: (bl s).drop (k + 1) := by
  rw [List.drop_eq_getElem_cons (by rw [bl_length]; exact h)]; rfl



































































































/-- What spec.ReadMultihash hands back. -/
def SmEnd (bs : List UInt8) (e : Ending) : Prop :=
  match mhRead bs with
  | some (code, d, n) => e = .returned (.tuple #[.int .u64 code, .string (strB d), .int .i64 n, .bool true])
  | none => e = .returned (.tuple #[.int .u64 0, .string ⟨#[]⟩, .int .i64 0, .bool false])
theorem smEnd_none {bs : List UInt8} (h : mhRead bs = none) : SmEnd bs (.returned (.tuple #[.int .u64 0, .string ⟨#[]⟩, .int .i64 0, .bool false])) := by
  unfold SmEnd; rw [h]
theorem smEnd_some {bs : List UInt8} {code N : Nat} {n : Int} {d : List UInt8} {s : ByteArray} (h : mhRead bs = some (code, d, N)) (hn : n = (N : Int)) (hd : s = strB d) : SmEnd bs (.returned (.tuple #[.int .u64 code, .string s, .int .i64 n, .bool true])) := by
  subst hn hd; unfold SmEnd; rw [h]

theorem bl_extract (s : ByteArray) (a b : Nat) : bl (s.extract a b) = ((bl s).take b).drop a := by
  unfold bl
  rw [ByteArray.data_extract, Array.toList_extract, List.extract_eq_take_drop]
  rw [List.drop_take]














































































end Go.Proofs.YtkcpgcaccgahaaaGreatDoor
