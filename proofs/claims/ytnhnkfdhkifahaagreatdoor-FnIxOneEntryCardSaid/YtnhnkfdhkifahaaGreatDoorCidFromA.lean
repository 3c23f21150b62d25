/- Some texts in one: CidFrom, CidFrom0. -/
import Derived.Test.YtnhnkfdhkifahaaGreatDoorCidRd
namespace Go.Proofs.YtnhnkfdhkifahaaGreatDoor
open Go.RowKit





























































































end Go.Proofs.YtnhnkfdhkifahaaGreatDoor
namespace Go.Proofs.YtnhnkfdhkifahaaGreatDoor
open Go.RowKit

theorem cd0_shape {bs : List UInt8} (h : cdZero bs) (hl : 34 ≤ bs.length) : bs.take 34 = 18 :: 32 :: (bs.drop 2).take 32 := by
  obtain ⟨h0, h1, h2⟩ := h
  match bs, hl, h1, h2 with
  | a :: b :: r, _, h1, h2 =>
    simp at h1 h2
    subst h1 h2
    rfl
theorem cdRead_zero {bs : List UInt8} (h : cdZero bs) (hl : 34 ≤ bs.length) : cdRead bs = some (0, 112, 18, (bs.drop 2).take 32, 34) := by
  unfold cdRead; rw [if_pos h, if_neg (by omega)]

/-- What the operations of the region that hands back an identifier of version 0 leave. -/
def k7R (r : Nat) (A : Option Addr) (c : Nat) (S : ByteArray) (i : Nat) (v : Value) (w : World) : Prop :=
  match i with
  | 0 => v = .slice A 34 c
  | 1 => v = .string S
  | 2 => v = .agg #[.string S]
  | 3 => v = .int .i64 34
  | 4 => w.heap[r]? = some (.cells #[.string S] 44 (0, 0))
  | 5 => v = .nilIface
  | _ => True
theorem k7R_keep {r : Nat} {A : Option Addr} {c : Nat} {S : ByteArray} {C0 : Obj} {i : Nat} {v : Value} {w w' : World} (h : k7R r A c S i v w) (hb : OneStep r C0 (.cells #[.string S] 44 (0, 0)) w w') : k7R r A c S i v w' := by
  unfold k7R at *
  split at h <;> first | exact h | exact hb.2.1 h


























































































end Go.Proofs.YtnhnkfdhkifahaaGreatDoor
