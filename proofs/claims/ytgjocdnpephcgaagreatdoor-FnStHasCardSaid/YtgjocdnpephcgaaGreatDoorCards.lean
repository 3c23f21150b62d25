/-
  DERIVED. GIVEN WITH THE SEED: THE CARDS: each row of YtgjocdnpephcgaaGreatDoorRows.lean that lists a variable, with what it lists TIED to the program's text (the seventh form; the later family's looks); each row that meets fmt, with fmt's text TOLD by the authors' own Lean function (tested against real Go, not proved from fmt's source: count such statements apart). THE CARD IS WHAT COUNTS. Prove the row's statement (the work); the ties are given (YtgjocdnpephcgaaGreatDoorTie.lean); close each card by the builder's one call (the guide's Derived/Test/ToyasCard.lean, 'card_holds'). Laid BY PROGRAM, IN A SANDBOX (cutbox-door.mjs). By AI agents, Wed Nov 11 2026. No macro, syntax, notation, axiom, sorry.
-/
import Derived.Test.YtgjocdnpephcgaaGreatDoorRows
import GoSem.ClaimSeven
namespace Go.Proofs.YtgjocdnpephcgaaGreatDoor
namespace Rows

/-- THE TIED CARD OF 'laws.FnStHas'. -/
def fnStHasCard : Claim7 := { stood := { row := fnStHasRow, standIns := [], harness := (true, "f2433186f26a79a92108ba977cb61416d445b41b6a729436ed76d36680ae8fa8"), looks := true }, kinds := [], alts := [], laidByText := true, laidKinds := [.data, .data, .sentinel, .sentinel, .sentinel, .sentinel, .sentinel, .sentinel, .data], laidTests := true, laidLooks := .later }
def FnStHasCardSaid : Prop := Claim7.holds Tryz.pinned (.plain (OpenSpec.ofChange fnStHasSpec)) fnStHasCard

/-- THE SECOND FORM's CARD OF 'laws.FnStHas'. -/
def fnStHasUptoCard : Claim7 := { stood := { row := fnStHasUptoRow, standIns := [], harness := (true, "f2433186f26a79a92108ba977cb61416d445b41b6a729436ed76d36680ae8fa8"), looks := true }, kinds := [], alts := [], laidByText := true, laidKinds := [.data, .data, .sentinel, .sentinel, .sentinel, .sentinel, .sentinel, .sentinel, .data], laidTests := true, laidLooks := .later }
def FnStHasUptoCardSaid : Prop := Claim7.holds Tryz.pinned (.plain (OpenSpec.upto fnStHasSpec)) fnStHasUptoCard
end Rows
end Go.Proofs.YtgjocdnpephcgaaGreatDoor
