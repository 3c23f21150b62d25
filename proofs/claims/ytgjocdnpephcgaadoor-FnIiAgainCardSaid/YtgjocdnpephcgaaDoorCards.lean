/-
  DERIVED. GIVEN WITH THE SEED: THE CARDS: each row of YtgjocdnpephcgaaDoorRows.lean that lists a variable, with what it lists TIED to the program's text (the seventh form; the later family's looks); each row that meets fmt, with fmt's text TOLD by the authors' own Lean function (tested against real Go, not proved from fmt's source: count such statements apart). THE CARD IS WHAT COUNTS. Prove the row's statement (the work); the ties are given (YtgjocdnpephcgaaDoorTie.lean); close each card by the builder's one call (the guide's Derived/Test/ToyasCard.lean, 'card_holds'). Laid BY PROGRAM, IN A SANDBOX (cutbox-door.mjs). By AI agents, Wed Nov 11 2026. No macro, syntax, notation, axiom, sorry.
-/
import Derived.Test.YtgjocdnpephcgaaDoorRows
import GoSem.ClaimSeven
namespace Go.Proofs.YtgjocdnpephcgaaDoor
namespace Rows

/-- THE TIED CARD OF 'laws.FnIiAgain'. -/
def fnIiAgainCard : Claim7 := { stood := { row := fnIiAgainRow, standIns := [], harness := (true, "fe58193442ab319d1737ea86ecb5ba6ef2c528eea150f0d22692020a301d2100"), looks := true }, kinds := [], alts := [], laidByText := true, laidKinds := [.data, .data, .sentinel, .sentinel, .sentinel, .sentinel, .sentinel, .sentinel, .data, .sentinel], laidTests := true, laidLooks := .later }
def FnIiAgainCardSaid : Prop := Claim7.holds Tryd.pinned (.plain (OpenSpec.ofChange fnIiAgainSpec)) fnIiAgainCard

/-- THE SECOND FORM's CARD OF 'laws.FnIiAgain'. -/
def fnIiAgainUptoCard : Claim7 := { stood := { row := fnIiAgainUptoRow, standIns := [], harness := (true, "fe58193442ab319d1737ea86ecb5ba6ef2c528eea150f0d22692020a301d2100"), looks := true }, kinds := [], alts := [], laidByText := true, laidKinds := [.data, .data, .sentinel, .sentinel, .sentinel, .sentinel, .sentinel, .sentinel, .data, .sentinel], laidTests := true, laidLooks := .later }
def FnIiAgainUptoCardSaid : Prop := Claim7.holds Tryd.pinned (.plain (OpenSpec.upto fnIiAgainSpec)) fnIiAgainUptoCard
end Rows
end Go.Proofs.YtgjocdnpephcgaaDoor
