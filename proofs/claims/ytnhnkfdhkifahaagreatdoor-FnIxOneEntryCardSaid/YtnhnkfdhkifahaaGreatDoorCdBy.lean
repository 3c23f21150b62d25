/- The walk of impl.CdBytes of an identifier that is read. -/
import Derived.Test.YtnhnkfdhkifahaaGreatDoorCid0
import Derived.Test.YtnhnkfdhkifahaaGreatDoorCdA
namespace Go.Proofs.YtnhnkfdhkifahaaGreatDoor
open Go.RowKit

theorem head_bl (s : ByteArray) (n : Nat) : bl (s.extract 0 n) = (bl s).take n := by
  rw [bl_extract]; rfl





































end Go.Proofs.YtnhnkfdhkifahaaGreatDoor
