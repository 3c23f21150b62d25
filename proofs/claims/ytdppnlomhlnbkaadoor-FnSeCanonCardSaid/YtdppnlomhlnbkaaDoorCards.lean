/-
  DERIVED. GIVEN WITH THE SEED: THE CARDS: each row of YtdppnlomhlnbkaaDoorRows.lean that lists a variable, with what it lists TIED to the program's text (the seventh form; the later family's looks); each row that meets fmt, with fmt's text TOLD by the authors' own Lean function (tested against real Go, not proved from fmt's source: count such statements apart). THE CARD IS WHAT COUNTS. Prove the row's statement (the work); the ties are given (YtdppnlomhlnbkaaDoorTie.lean); close each card by the builder's one call (the guide's Derived/Test/ToyasCard.lean, 'card_holds'). Laid BY PROGRAM, IN A SANDBOX (cutbox-door.mjs). By AI agents, Wed Nov 11 2026. No macro, syntax, notation, axiom, sorry.
-/
import Derived.Test.YtdppnlomhlnbkaaDoorRows
import GoSem.ClaimSeven
namespace Go.Proofs.YtdppnlomhlnbkaaDoor
namespace Rows

/-- THE TIED CARD OF 'laws.FnCdRead'. -/
def fnCdReadCard : Claim7 := { stood := { row := fnCdReadRow, standIns := [], harness := (true, "2b037b34754b379de74c87ae394dada9a5b2d3fcc64985deed7a9eef341089f7"), looks := true }, kinds := [], alts := [], laidByText := true, laidKinds := [.sentinel, .sentinel, .sentinel, .sentinel, .sentinel, .sentinel, .data], laidTests := true, laidLooks := .later }
def FnCdReadCardSaid : Prop := Claim7.holds Tryd.pinned (.plain (OpenSpec.ofChange fnCdReadSpec)) fnCdReadCard

/-- THE TIED CARD OF 'laws.FnCdCanon'. -/
def fnCdCanonCard : Claim7 := { stood := { row := fnCdCanonRow, standIns := [], harness := (true, "2b037b34754b379de74c87ae394dada9a5b2d3fcc64985deed7a9eef341089f7"), looks := true }, kinds := [], alts := [], laidByText := true, laidKinds := [.sentinel, .sentinel, .sentinel, .sentinel, .sentinel, .sentinel, .sentinel, .sentinel, .sentinel, .data], laidTests := true, laidLooks := .later }
def FnCdCanonCardSaid : Prop := Claim7.holds Tryd.pinned (.plain (OpenSpec.ofChange fnCdCanonSpec)) fnCdCanonCard

/-- THE TIED CARD OF 'laws.FnCdCut'. -/
def fnCdCutCard : Claim7 := { stood := { row := fnCdCutRow, standIns := [], harness := (true, "2b037b34754b379de74c87ae394dada9a5b2d3fcc64985deed7a9eef341089f7"), looks := true }, kinds := [], alts := [], laidByText := true, laidKinds := [.sentinel, .sentinel, .sentinel, .sentinel, .sentinel, .sentinel, .sentinel, .sentinel, .sentinel, .data], laidTests := true, laidLooks := .later }
def FnCdCutCardSaid : Prop := Claim7.holds Tryd.pinned (.plain (OpenSpec.ofChange fnCdCutSpec)) fnCdCutCard

/-- THE TIED CARD OF 'laws.FnLdRead'. -/
def fnLdReadCard : Claim7 := { stood := { row := fnLdReadRow, standIns := [], harness := (true, "2b037b34754b379de74c87ae394dada9a5b2d3fcc64985deed7a9eef341089f7"), looks := true }, kinds := [], alts := [], laidByText := true, laidKinds := [.sentinel, .sentinel, .sentinel, .sentinel, .sentinel, .sentinel], laidTests := true, laidLooks := .later }
def FnLdReadCardSaid : Prop := Claim7.holds Tryd.pinned (.plain (OpenSpec.ofChange fnLdReadSpec)) fnLdReadCard

/-- THE TIED CARD OF 'laws.FnSeRead'. -/
def fnSeReadCard : Claim7 := { stood := { row := fnSeReadRow, standIns := [], harness := (true, "2b037b34754b379de74c87ae394dada9a5b2d3fcc64985deed7a9eef341089f7"), looks := true }, kinds := [], alts := [], laidByText := true, laidKinds := [.sentinel, .sentinel, .sentinel, .sentinel, .sentinel, .sentinel, .sentinel, .sentinel, .sentinel, .data, .sentinel], laidTests := true, laidLooks := .later }
def FnSeReadCardSaid : Prop := Claim7.holds Tryd.pinned (.plain (OpenSpec.ofChange fnSeReadSpec)) fnSeReadCard

/-- THE TIED CARD OF 'laws.FnSeCanon'. -/
def fnSeCanonCard : Claim7 := { stood := { row := fnSeCanonRow, standIns := [], harness := (true, "2b037b34754b379de74c87ae394dada9a5b2d3fcc64985deed7a9eef341089f7"), looks := true }, kinds := [], alts := [], laidByText := true, laidKinds := [.sentinel, .sentinel, .sentinel, .sentinel, .sentinel, .sentinel, .sentinel, .sentinel, .sentinel, .data, .sentinel], laidTests := true, laidLooks := .later }
def FnSeCanonCardSaid : Prop := Claim7.holds Tryd.pinned (.plain (OpenSpec.ofChange fnSeCanonSpec)) fnSeCanonCard

/-- THE SECOND FORM's CARD OF 'laws.FnCdRead'. -/
def fnCdReadUptoCard : Claim7 := { stood := { row := fnCdReadUptoRow, standIns := [], harness := (true, "2b037b34754b379de74c87ae394dada9a5b2d3fcc64985deed7a9eef341089f7"), looks := true }, kinds := [], alts := [], laidByText := true, laidKinds := [.sentinel, .sentinel, .sentinel, .sentinel, .sentinel, .sentinel, .data], laidTests := true, laidLooks := .later }
def FnCdReadUptoCardSaid : Prop := Claim7.holds Tryd.pinned (.plain (OpenSpec.upto fnCdReadSpec)) fnCdReadUptoCard

/-- THE SECOND FORM's CARD OF 'laws.FnCdCanon'. -/
def fnCdCanonUptoCard : Claim7 := { stood := { row := fnCdCanonUptoRow, standIns := [], harness := (true, "2b037b34754b379de74c87ae394dada9a5b2d3fcc64985deed7a9eef341089f7"), looks := true }, kinds := [], alts := [], laidByText := true, laidKinds := [.sentinel, .sentinel, .sentinel, .sentinel, .sentinel, .sentinel, .sentinel, .sentinel, .sentinel, .data], laidTests := true, laidLooks := .later }
def FnCdCanonUptoCardSaid : Prop := Claim7.holds Tryd.pinned (.plain (OpenSpec.upto fnCdCanonSpec)) fnCdCanonUptoCard

/-- THE SECOND FORM's CARD OF 'laws.FnCdCut'. -/
def fnCdCutUptoCard : Claim7 := { stood := { row := fnCdCutUptoRow, standIns := [], harness := (true, "2b037b34754b379de74c87ae394dada9a5b2d3fcc64985deed7a9eef341089f7"), looks := true }, kinds := [], alts := [], laidByText := true, laidKinds := [.sentinel, .sentinel, .sentinel, .sentinel, .sentinel, .sentinel, .sentinel, .sentinel, .sentinel, .data], laidTests := true, laidLooks := .later }
def FnCdCutUptoCardSaid : Prop := Claim7.holds Tryd.pinned (.plain (OpenSpec.upto fnCdCutSpec)) fnCdCutUptoCard

/-- THE SECOND FORM's CARD OF 'laws.FnLdRead'. -/
def fnLdReadUptoCard : Claim7 := { stood := { row := fnLdReadUptoRow, standIns := [], harness := (true, "2b037b34754b379de74c87ae394dada9a5b2d3fcc64985deed7a9eef341089f7"), looks := true }, kinds := [], alts := [], laidByText := true, laidKinds := [.sentinel, .sentinel, .sentinel, .sentinel, .sentinel, .sentinel], laidTests := true, laidLooks := .later }
def FnLdReadUptoCardSaid : Prop := Claim7.holds Tryd.pinned (.plain (OpenSpec.upto fnLdReadSpec)) fnLdReadUptoCard

/-- THE SECOND FORM's CARD OF 'laws.FnSeRead'. -/
def fnSeReadUptoCard : Claim7 := { stood := { row := fnSeReadUptoRow, standIns := [], harness := (true, "2b037b34754b379de74c87ae394dada9a5b2d3fcc64985deed7a9eef341089f7"), looks := true }, kinds := [], alts := [], laidByText := true, laidKinds := [.sentinel, .sentinel, .sentinel, .sentinel, .sentinel, .sentinel, .sentinel, .sentinel, .sentinel, .data, .sentinel], laidTests := true, laidLooks := .later }
def FnSeReadUptoCardSaid : Prop := Claim7.holds Tryd.pinned (.plain (OpenSpec.upto fnSeReadSpec)) fnSeReadUptoCard

/-- THE SECOND FORM's CARD OF 'laws.FnSeCanon'. -/
def fnSeCanonUptoCard : Claim7 := { stood := { row := fnSeCanonUptoRow, standIns := [], harness := (true, "2b037b34754b379de74c87ae394dada9a5b2d3fcc64985deed7a9eef341089f7"), looks := true }, kinds := [], alts := [], laidByText := true, laidKinds := [.sentinel, .sentinel, .sentinel, .sentinel, .sentinel, .sentinel, .sentinel, .sentinel, .sentinel, .data, .sentinel], laidTests := true, laidLooks := .later }
def FnSeCanonUptoCardSaid : Prop := Claim7.holds Tryd.pinned (.plain (OpenSpec.upto fnSeCanonSpec)) fnSeCanonUptoCard
end Rows
end Go.Proofs.YtdppnlomhlnbkaaDoor
