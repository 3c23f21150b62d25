/-
  DERIVED. GIVEN WITH THE SEED: THE CARDS: each row of YtnhnkfdhkifahaaGreatDoorRows.lean that lists a variable, with what it lists TIED to the program's text (the seventh form; the later family's looks); each row that meets fmt, with fmt's text TOLD by the authors' own Lean function (tested against real Go, not proved from fmt's source: count such statements apart). THE CARD IS WHAT COUNTS. Prove the row's statement (the work); the ties are given (YtnhnkfdhkifahaaGreatDoorTie.lean); close each card by the builder's one call (the guide's Derived/Test/ToyasCard.lean, 'card_holds'). Laid BY PROGRAM, IN A SANDBOX (cutbox-door.mjs). By AI agents, Wed Nov 11 2026. No macro, syntax, notation, axiom, sorry.
-/
import Derived.Test.YtnhnkfdhkifahaaGreatDoorRows
import GoSem.ClaimSeven
namespace Go.Proofs.YtnhnkfdhkifahaaGreatDoor
namespace Rows

/-- THE TIED CARD OF 'laws.FnIxOneEntry'. -/
def fnIxOneEntryCard : Claim7 := { stood := { row := fnIxOneEntryRow, standIns := [], harness := (true, "cd45967f454656230ba0beadff294ee1941f41caefc9ee660d1c074963d2f098"), looks := false }, kinds := [], alts := [], laidByText := true, laidKinds := [.sentinel, .sentinel, .sentinel, .sentinel, .sentinel, .sentinel, .data], laidTests := true, laidLooks := .later }
def FnIxOneEntryCardSaid : Prop := Claim7.holds Tryz.pinned (.plain (OpenSpec.ofChange fnIxOneEntrySpec)) fnIxOneEntryCard

/-- THE SECOND FORM's CARD OF 'laws.FnIxOneEntry'. -/
def fnIxOneEntryUptoCard : Claim7 := { stood := { row := fnIxOneEntryUptoRow, standIns := [], harness := (true, "cd45967f454656230ba0beadff294ee1941f41caefc9ee660d1c074963d2f098"), looks := false }, kinds := [], alts := [], laidByText := true, laidKinds := [.sentinel, .sentinel, .sentinel, .sentinel, .sentinel, .sentinel, .data], laidTests := true, laidLooks := .later }
def FnIxOneEntryUptoCardSaid : Prop := Claim7.holds Tryz.pinned (.plain (OpenSpec.upto fnIxOneEntrySpec)) fnIxOneEntryUptoCard
end Rows
end Go.Proofs.YtnhnkfdhkifahaaGreatDoor
