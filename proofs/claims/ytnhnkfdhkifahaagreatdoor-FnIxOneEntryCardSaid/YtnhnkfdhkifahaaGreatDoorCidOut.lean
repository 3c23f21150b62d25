/- The walk of impl.cidOut. -/
import Derived.Test.YtnhnkfdhkifahaaGreatDoorCidA
import Derived.Test.YtnhnkfdhkifahaaGreatDoorGrowA
namespace Go.Proofs.YtnhnkfdhkifahaaGreatDoor
open Go.RowKit

/-- What operations 0 to 13 of the last region leave. -/
def coR (p g ver codec code : Nat) (d : List UInt8) (A' : Option Addr) (c' : Nat) (i : Nat) (v : Value) (_ : World) : Prop :=
  match i with
  | 0 => v = .pointer (some ⟨p, 0, none⟩)
  | 1 => v = .int .u64 ver
  | 2 => v = .pointer (some ⟨p, 1, none⟩)
  | 3 => v = .int .u64 codec
  | 4 => v = .pointer (some ⟨g, 0, none⟩)
  | 5 => v = .pointer (some ⟨g, 0, none⟩)
  | 6 => v = .pointer (some ⟨g, 0, none⟩)
  | 7 => v = .int .u64 code
  | 8 => v = .pointer (some ⟨g, 0, none⟩)
  | 9 => v = .pointer (some ⟨g, 0, none⟩)
  | 10 => v = .pointer (some ⟨g, 3, none⟩)
  | 11 => v = .slice A' d.length c'
  | 12 => v = .string (strB d)
  | 13 => v = .agg #[.int .u64 ver, .int .u64 codec, .int .u64 code, .string (strB d)]
  | _ => True




















































































































































end Go.Proofs.YtnhnkfdhkifahaaGreatDoor
