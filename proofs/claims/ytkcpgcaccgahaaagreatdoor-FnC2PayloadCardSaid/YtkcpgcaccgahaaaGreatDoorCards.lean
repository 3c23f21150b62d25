/-
  DERIVED. GIVEN WITH THE SEED: THE CARDS: each row of YtkcpgcaccgahaaaGreatDoorRows.lean that lists a variable, with what it lists TIED to the program's text (the seventh form; the later family's looks); each row that meets fmt, with fmt's text TOLD by the authors' own Lean function (tested against real Go, not proved from fmt's source: count such statements apart). THE CARD IS WHAT COUNTS. Prove the row's statement (the work); the ties are given (YtkcpgcaccgahaaaGreatDoorTie.lean); close each card by the builder's one call (the guide's Derived/Test/ToyasCard.lean, 'card_holds'). Laid BY PROGRAM, IN A SANDBOX (cutbox-door.mjs). By AI agents, Wed Nov 11 2026. No macro, syntax, notation, axiom, sorry.
-/
import Derived.Test.YtkcpgcaccgahaaaGreatDoorRows
import GoSem.ClaimSeven
namespace Go.Proofs.YtkcpgcaccgahaaaGreatDoor
namespace Rows

/-- THE TIED CARD OF 'laws.FnC2Payload'. -/
def fnC2PayloadCard : Claim7 := { stood := { row := fnC2PayloadRow, standIns := [], harness := (true, "9313f0158db53fcd63ed367dba649eea559dc1752caacb16a5a8cbbf85dacfc8"), looks := true }, kinds := [], alts := [], laidByText := true, laidKinds := [.sentinel, .sentinel, .sentinel, .sentinel, .sentinel, .sentinel, .sentinel, .sentinel, .sentinel, .sentinel, .sentinel, .sentinel, .sentinel, .sentinel, .sentinel, .data, .sentinel, .sentinel, .sentinel], laidTests := true, laidLooks := .later }
def FnC2PayloadCardSaid : Prop := Claim7.holds Tryz.pinned (.plain (OpenSpec.ofChange fnC2PayloadSpec)) fnC2PayloadCard

/-- THE TIED CARD OF 'laws.FnRdParts'. -/
def fnRdPartsCard : Claim7 := { stood := { row := fnRdPartsRow, standIns := [], harness := (true, "9313f0158db53fcd63ed367dba649eea559dc1752caacb16a5a8cbbf85dacfc8"), looks := true }, kinds := [], alts := [], laidByText := true, laidKinds := [.sentinel, .sentinel, .sentinel, .sentinel, .sentinel, .sentinel, .sentinel, .sentinel, .sentinel, .sentinel, .sentinel, .sentinel, .sentinel, .sentinel, .sentinel, .data, .sentinel, .sentinel, .sentinel], laidTests := true, laidLooks := .later }
def FnRdPartsCardSaid : Prop := Claim7.holds Tryz.pinned (.plain (OpenSpec.ofChange fnRdPartsSpec)) fnRdPartsCard

/-- THE TIED CARD OF 'laws.FnC2File'. -/
def fnC2FileCard : Claim7 := { stood := { row := fnC2FileRow, standIns := [], harness := (true, "9313f0158db53fcd63ed367dba649eea559dc1752caacb16a5a8cbbf85dacfc8"), looks := true }, kinds := [], alts := [], laidByText := true, laidKinds := [.sentinel, .sentinel, .sentinel, .sentinel, .sentinel, .sentinel, .sentinel, .sentinel, .sentinel, .sentinel, .sentinel, .sentinel, .sentinel, .sentinel, .sentinel, .data, .sentinel, .sentinel, .sentinel], laidTests := true, laidLooks := .later }
def FnC2FileCardSaid : Prop := Claim7.holds Tryz.pinned (.plain (OpenSpec.ofChange fnC2FileSpec)) fnC2FileCard

/-- THE SECOND FORM's CARD OF 'laws.FnC2Payload'. -/
def fnC2PayloadUptoCard : Claim7 := { stood := { row := fnC2PayloadUptoRow, standIns := [], harness := (true, "9313f0158db53fcd63ed367dba649eea559dc1752caacb16a5a8cbbf85dacfc8"), looks := true }, kinds := [], alts := [], laidByText := true, laidKinds := [.sentinel, .sentinel, .sentinel, .sentinel, .sentinel, .sentinel, .sentinel, .sentinel, .sentinel, .sentinel, .sentinel, .sentinel, .sentinel, .sentinel, .sentinel, .data, .sentinel, .sentinel, .sentinel], laidTests := true, laidLooks := .later }
def FnC2PayloadUptoCardSaid : Prop := Claim7.holds Tryz.pinned (.plain (OpenSpec.upto fnC2PayloadSpec)) fnC2PayloadUptoCard

/-- THE SECOND FORM's CARD OF 'laws.FnRdParts'. -/
def fnRdPartsUptoCard : Claim7 := { stood := { row := fnRdPartsUptoRow, standIns := [], harness := (true, "9313f0158db53fcd63ed367dba649eea559dc1752caacb16a5a8cbbf85dacfc8"), looks := true }, kinds := [], alts := [], laidByText := true, laidKinds := [.sentinel, .sentinel, .sentinel, .sentinel, .sentinel, .sentinel, .sentinel, .sentinel, .sentinel, .sentinel, .sentinel, .sentinel, .sentinel, .sentinel, .sentinel, .data, .sentinel, .sentinel, .sentinel], laidTests := true, laidLooks := .later }
def FnRdPartsUptoCardSaid : Prop := Claim7.holds Tryz.pinned (.plain (OpenSpec.upto fnRdPartsSpec)) fnRdPartsUptoCard

/-- THE SECOND FORM's CARD OF 'laws.FnC2File'. -/
def fnC2FileUptoCard : Claim7 := { stood := { row := fnC2FileUptoRow, standIns := [], harness := (true, "9313f0158db53fcd63ed367dba649eea559dc1752caacb16a5a8cbbf85dacfc8"), looks := true }, kinds := [], alts := [], laidByText := true, laidKinds := [.sentinel, .sentinel, .sentinel, .sentinel, .sentinel, .sentinel, .sentinel, .sentinel, .sentinel, .sentinel, .sentinel, .sentinel, .sentinel, .sentinel, .sentinel, .data, .sentinel, .sentinel, .sentinel], laidTests := true, laidLooks := .later }
def FnC2FileUptoCardSaid : Prop := Claim7.holds Tryz.pinned (.plain (OpenSpec.upto fnC2FileSpec)) fnC2FileUptoCard
end Rows
end Go.Proofs.YtkcpgcaccgahaaaGreatDoor
