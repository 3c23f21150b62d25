/- The walk of varint.ReadUvarint over whatever reader of bytes. -/
import Derived.Test.YtgjocdnpephcgaaGreatDoorRdA
import Derived.Test.YtgjocdnpephcgaaGreatDoorErrLaid
import Derived.Test.YtgjocdnpephcgaaGreatDoorUvA
namespace Go.Proofs.YtgjocdnpephcgaaGreatDoor
open Go.RowKit

/-- The texts of the errors. -/
def txEof : List UInt8 := [69, 79, 70]
def txUeof : List UInt8 := [117, 110, 101, 120, 112, 101, 99, 116, 101, 100, 32, 69, 79, 70]















/-- An error that is not io.EOF. -/
def NotEof (v : Value) (w : World) : Prop := ∃ t, t ≠ txEof ∧ ErrV v t w
theorem NotEof.below {v : Value} {w w1 : World} (h : NotEof v w) (hb : Below w.heap.size w w1) : NotEof v w1 := by
  obtain ⟨t, ht, h⟩ := h; exact ⟨t, ht, h.below hb⟩













/-- What varint.ReadUvarint hands back. -/
def RuEnd (bs : List UInt8) (ve : Value) (S : Nat → World → Prop) (e : Ending) (w' : World) : Prop :=
  match uvRead bs with
  | some (x, n) => e = .returned (.tuple #[.int .u64 x, .nilIface]) ∧ S n w'
  | none => ∃ k v, S k w' ∧ e = .returned (.tuple #[.int .u64 0, v]) ∧ ((bs = [] ∧ v = ve) ∨ (bs ≠ [] ∧ NotEof v w'))
theorem ruEnd_some {bs : List UInt8} {ve : Value} {S : Nat → World → Prop} {w' : World} {x n : Nat} {X : Int} (h : uvRead bs = some (x, n)) (hx : X = (x : Int)) (hs : S n w') : RuEnd bs ve S (.returned (.tuple #[.int .u64 X, .nilIface])) w' := by
  subst hx; unfold RuEnd; rw [h]; exact ⟨rfl, hs⟩
theorem ruEnd_none {bs : List UInt8} {ve : Value} {S : Nat → World → Prop} {w' : World} {k : Nat} {v : Value} (h : uvRead bs = none) (hs : S k w') (hb : bs ≠ []) (hv : NotEof v w') : RuEnd bs ve S (.returned (.tuple #[.int .u64 0, v])) w' := by
  unfold RuEnd; rw [h]; exact ⟨k, v, hs, rfl, .inr ⟨hb, hv⟩⟩
theorem ruEnd_nil {ve : Value} {S : Nat → World → Prop} {w' : World} {k : Nat} (hs : S k w') : RuEnd [] ve S (.returned (.tuple #[.int .u64 0, ve])) w' :=
  ⟨k, ve, hs, rfl, .inl ⟨rfl, rfl⟩⟩

























































































































end Go.Proofs.YtgjocdnpephcgaaGreatDoor
