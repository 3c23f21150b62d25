/- Some texts in one: LdMath, LdUtil, LdRd. -/
import Derived.Test.YtgjocdnpephcgaaGreatDoorMath
import Derived.Test.YtgjocdnpephcgaaGreatDoorRdFullG
namespace Go.Proofs.YtgjocdnpephcgaaGreatDoor

/-- The ways in which a section is read. -/
inductive LongR
  | ended (n : Nat)
  | left
  | failed
  | read (d : List UInt8) (n : Nat)

/-- A section: a length as a varint, of at most so many bytes, and as many bytes. -/
def longRead (bs : List UInt8) (ze : Bool) (most : Nat) : LongR :=
  if bs = [] then .ended 0 else
  match uvRead bs with
  | none => .failed
  | some (x, k) => if most < x then .failed else if ze = true ∧ x = 0 then .ended k else if 0 < x ∧ k = bs.length then .left else if bs.length - k < x then .failed else .read ((bs.drop k).take x) (k + x)

theorem long_nil (ze : Bool) (most : Nat) : longRead [] ze most = .ended 0 := rfl
theorem long_bad {bs : List UInt8} {ze : Bool} {most : Nat} (h : bs ≠ []) (h1 : uvRead bs = none) : longRead bs ze most = .failed := by
  unfold longRead; rw [if_neg h, h1]
theorem long_much {bs : List UInt8} {ze : Bool} {most x k : Nat} (h : bs ≠ []) (h1 : uvRead bs = some (x, k)) (h2 : most < x) : longRead bs ze most = .failed := by
  unfold longRead; rw [if_neg h, h1]; simp only; rw [if_pos h2]
theorem long_zero {bs : List UInt8} {most k : Nat} (h : bs ≠ []) (h1 : uvRead bs = some (0, k)) : longRead bs true most = .ended k := by
  unfold longRead; rw [if_neg h, h1]; simp
theorem long_left {bs : List UInt8} {ze : Bool} {most x k : Nat} (h : bs ≠ []) (h1 : uvRead bs = some (x, k)) (h2 : ¬ most < x) (h3 : ¬ (ze = true ∧ x = 0)) (h4 : 0 < x ∧ k = bs.length) : longRead bs ze most = .left := by
  unfold longRead; rw [if_neg h, h1]; simp only; rw [if_neg h2, if_neg h3, if_pos h4]
theorem long_less {bs : List UInt8} {ze : Bool} {most x k : Nat} (h : bs ≠ []) (h1 : uvRead bs = some (x, k)) (h2 : ¬ most < x) (h3 : ¬ (ze = true ∧ x = 0)) (h4 : ¬ (0 < x ∧ k = bs.length)) (h5 : bs.length - k < x) : longRead bs ze most = .failed := by
  unfold longRead; rw [if_neg h, h1]; simp only; rw [if_neg h2, if_neg h3, if_neg h4, if_pos h5]
theorem long_read {bs : List UInt8} {ze : Bool} {most x k : Nat} (h : bs ≠ []) (h1 : uvRead bs = some (x, k)) (h2 : ¬ most < x) (h3 : ¬ (ze = true ∧ x = 0)) (h4 : ¬ (0 < x ∧ k = bs.length)) (h5 : ¬ bs.length - k < x) : longRead bs ze most = .read ((bs.drop k).take x) (k + x) := by
  unfold longRead; rw [if_neg h, h1]; simp only; rw [if_neg h2, if_neg h3, if_neg h4, if_neg h5]
theorem uv_ne {bs : List UInt8} {x k : Nat} (h1 : uvRead bs = some (x, k)) : bs ≠ [] := by rintro rfl; cases h1
end Go.Proofs.YtgjocdnpephcgaaGreatDoor
namespace Go.Proofs.YtgjocdnpephcgaaGreatDoor
open Go.RowKit









































































































































end Go.Proofs.YtgjocdnpephcgaaGreatDoor
namespace Go.Proofs.YtgjocdnpephcgaaGreatDoor
open Go.RowKit

theorem mk_bytes_u (t : TypeId) (ht : Tryz.prog.underlying t = some (.slice 5)) (n : Nat) (hn : n ≤ 140737488355328) (W : World) :
    (Instr.makeSlice t (.int .u64 (n : Int)) (.int .u64 (n : Int))).run Tryz.prog W = .ok (.slice (some ⟨W.heap.size, 0, none⟩) n n) (W.alloc (.cells (zeros n) 5)) := by
  obtain ⟨i, hi, hz, hs, hb⟩ := info_parts info_u8
  have h := run_make (P := Tryz.prog) W t 5 i _ ht hi hz .u64 .u64 (n : Int) (n : Int) (by omega) (by omega) (by rw [hb]; omega) (by omega)
  simp only [Int.toNat_natCast, hs, Nat.mul_one] at h
  have hm : madeCells (Value.cells (.int .u8 0)) n = zeros n := by
    apply Array.ext
    · rw [size_madeCells, zeros_size]
    · intro j h1 h2
      simp [madeCells, zeros, Value.cells, Nat.mod_one]
  rw [hm] at h
  exact h

theorem rd_of_zero {w : World} {g : Nat} (_h : w.heap[g]? = some (.cells (zeros 0) 5 (0, 0))) {xs : List UInt8} : RdB w (some ⟨g, 0, none⟩) (xs.take 0).length 0 (xs.take 0) := by
  rw [List.take_zero]
  exact ⟨rfl, Nat.le_refl _, by omega, fun h => by simp at h⟩








































































































































end Go.Proofs.YtgjocdnpephcgaaGreatDoor
