/- The walk of impl.CdBytes of an identifier that is read. -/
import Derived.Test.YtgjocdnpephcgaaGreatDoorCid0
import Derived.Test.YtgjocdnpephcgaaGreatDoorCdA
namespace Go.Proofs.YtgjocdnpephcgaaGreatDoor
open Go.RowKit

theorem head_bl (s : ByteArray) (n : Nat) : bl (s.extract 0 n) = (bl s).take n := by
  rw [bl_extract]; rfl





































end Go.Proofs.YtgjocdnpephcgaaGreatDoor
