/-
  DERIVED. GIVEN WITH THE SEED: THE CARDS: each row of YtpagaagghpopiaaDoorRows.lean that lists a variable, with what it lists TIED to the program's text (the seventh form; the later family's looks); each row that meets fmt, with fmt's text TOLD by the authors' own Lean function (tested against real Go, not proved from fmt's source: count such statements apart). THE CARD IS WHAT COUNTS. Prove the row's statement (the work); the ties are given (YtpagaagghpopiaaDoorTie.lean); close each card by the builder's one call (the guide's Derived/Test/ToyasCard.lean, 'card_holds'). Laid BY PROGRAM, IN A SANDBOX (cutbox-door.mjs). By AI agents, Wed Nov 11 2026. No macro, syntax, notation, axiom, sorry.
-/
import Derived.Test.YtpagaagghpopiaaDoorRows
import GoSem.ClaimSeven
namespace Go.Proofs.YtpagaagghpopiaaDoor
namespace Rows

/-- THE TIED CARD OF 'laws.FnC2Read'. -/
def fnC2ReadCard : Claim7 := { stood := { row := fnC2ReadRow, standIns := [], harness := (true, "9f5a5c9d51562ba7aa655387a10aac3334ee0c21cf39c542b9bb712cae4def3a"), looks := true }, kinds := [], alts := [], laidByText := true, laidKinds := [.sentinel, .sentinel, .sentinel], laidTests := true, laidLooks := .later }
def FnC2ReadCardSaid : Prop := Claim7.holds Tryd.pinned (.plain (OpenSpec.ofChange fnC2ReadSpec)) fnC2ReadCard

/-- THE TIED CARD OF 'laws.FnUvBack'. -/
def fnUvBackCard : Claim7 := { stood := { row := fnUvBackRow, standIns := [], harness := (true, "9f5a5c9d51562ba7aa655387a10aac3334ee0c21cf39c542b9bb712cae4def3a"), looks := true }, kinds := [], alts := [], laidByText := true, laidKinds := [.sentinel, .sentinel, .sentinel], laidTests := true, laidLooks := .later }
def FnUvBackCardSaid : Prop := Claim7.holds Tryd.pinned (.plain (OpenSpec.ofChange fnUvBackSpec)) fnUvBackCard

/-- THE TIED CARD OF 'laws.FnUvEnds'. -/
def fnUvEndsCard : Claim7 := { stood := { row := fnUvEndsRow, standIns := [], harness := (true, "9f5a5c9d51562ba7aa655387a10aac3334ee0c21cf39c542b9bb712cae4def3a"), looks := true }, kinds := [], alts := [], laidByText := true, laidKinds := [.sentinel, .sentinel, .sentinel], laidTests := true, laidLooks := .later }
def FnUvEndsCardSaid : Prop := Claim7.holds Tryd.pinned (.plain (OpenSpec.ofChange fnUvEndsSpec)) fnUvEndsCard

/-- THE TIED CARD OF 'laws.FnMhEncode'. -/
def fnMhEncodeCard : Claim7 := { stood := { row := fnMhEncodeRow, standIns := [], harness := (true, "9f5a5c9d51562ba7aa655387a10aac3334ee0c21cf39c542b9bb712cae4def3a"), looks := true }, kinds := [], alts := [], laidByText := true, laidKinds := [.sentinel, .sentinel, .sentinel, .sentinel, .sentinel, .sentinel], laidTests := true, laidLooks := .later }
def FnMhEncodeCardSaid : Prop := Claim7.holds Tryd.pinned (.plain (OpenSpec.ofChange fnMhEncodeSpec)) fnMhEncodeCard

/-- THE TIED CARD OF 'laws.FnMhRead'. -/
def fnMhReadCard : Claim7 := { stood := { row := fnMhReadRow, standIns := [], harness := (true, "9f5a5c9d51562ba7aa655387a10aac3334ee0c21cf39c542b9bb712cae4def3a"), looks := true }, kinds := [], alts := [], laidByText := true, laidKinds := [.sentinel, .sentinel, .sentinel, .sentinel, .sentinel, .sentinel], laidTests := true, laidLooks := .later }
def FnMhReadCardSaid : Prop := Claim7.holds Tryd.pinned (.plain (OpenSpec.ofChange fnMhReadSpec)) fnMhReadCard

/-- THE TIED CARD OF 'laws.FnCdRead'. -/
def fnCdReadCard : Claim7 := { stood := { row := fnCdReadRow, standIns := [], harness := (true, "9f5a5c9d51562ba7aa655387a10aac3334ee0c21cf39c542b9bb712cae4def3a"), looks := true }, kinds := [], alts := [], laidByText := true, laidKinds := [.sentinel, .sentinel, .sentinel, .sentinel, .sentinel, .sentinel, .data], laidTests := true, laidLooks := .later }
def FnCdReadCardSaid : Prop := Claim7.holds Tryd.pinned (.plain (OpenSpec.ofChange fnCdReadSpec)) fnCdReadCard

/-- THE SECOND FORM's CARD OF 'laws.FnC2Read'. -/
def fnC2ReadUptoCard : Claim7 := { stood := { row := fnC2ReadUptoRow, standIns := [], harness := (true, "9f5a5c9d51562ba7aa655387a10aac3334ee0c21cf39c542b9bb712cae4def3a"), looks := true }, kinds := [], alts := [], laidByText := true, laidKinds := [.sentinel, .sentinel, .sentinel], laidTests := true, laidLooks := .later }
def FnC2ReadUptoCardSaid : Prop := Claim7.holds Tryd.pinned (.plain (OpenSpec.upto fnC2ReadSpec)) fnC2ReadUptoCard

/-- THE SECOND FORM's CARD OF 'laws.FnUvBack'. -/
def fnUvBackUptoCard : Claim7 := { stood := { row := fnUvBackUptoRow, standIns := [], harness := (true, "9f5a5c9d51562ba7aa655387a10aac3334ee0c21cf39c542b9bb712cae4def3a"), looks := true }, kinds := [], alts := [], laidByText := true, laidKinds := [.sentinel, .sentinel, .sentinel], laidTests := true, laidLooks := .later }
def FnUvBackUptoCardSaid : Prop := Claim7.holds Tryd.pinned (.plain (OpenSpec.upto fnUvBackSpec)) fnUvBackUptoCard

/-- THE SECOND FORM's CARD OF 'laws.FnUvEnds'. -/
def fnUvEndsUptoCard : Claim7 := { stood := { row := fnUvEndsUptoRow, standIns := [], harness := (true, "9f5a5c9d51562ba7aa655387a10aac3334ee0c21cf39c542b9bb712cae4def3a"), looks := true }, kinds := [], alts := [], laidByText := true, laidKinds := [.sentinel, .sentinel, .sentinel], laidTests := true, laidLooks := .later }
def FnUvEndsUptoCardSaid : Prop := Claim7.holds Tryd.pinned (.plain (OpenSpec.upto fnUvEndsSpec)) fnUvEndsUptoCard

/-- THE SECOND FORM's CARD OF 'laws.FnMhEncode'. -/
def fnMhEncodeUptoCard : Claim7 := { stood := { row := fnMhEncodeUptoRow, standIns := [], harness := (true, "9f5a5c9d51562ba7aa655387a10aac3334ee0c21cf39c542b9bb712cae4def3a"), looks := true }, kinds := [], alts := [], laidByText := true, laidKinds := [.sentinel, .sentinel, .sentinel, .sentinel, .sentinel, .sentinel], laidTests := true, laidLooks := .later }
def FnMhEncodeUptoCardSaid : Prop := Claim7.holds Tryd.pinned (.plain (OpenSpec.upto fnMhEncodeSpec)) fnMhEncodeUptoCard

/-- THE SECOND FORM's CARD OF 'laws.FnMhRead'. -/
def fnMhReadUptoCard : Claim7 := { stood := { row := fnMhReadUptoRow, standIns := [], harness := (true, "9f5a5c9d51562ba7aa655387a10aac3334ee0c21cf39c542b9bb712cae4def3a"), looks := true }, kinds := [], alts := [], laidByText := true, laidKinds := [.sentinel, .sentinel, .sentinel, .sentinel, .sentinel, .sentinel], laidTests := true, laidLooks := .later }
def FnMhReadUptoCardSaid : Prop := Claim7.holds Tryd.pinned (.plain (OpenSpec.upto fnMhReadSpec)) fnMhReadUptoCard

/-- THE SECOND FORM's CARD OF 'laws.FnCdRead'. -/
def fnCdReadUptoCard : Claim7 := { stood := { row := fnCdReadUptoRow, standIns := [], harness := (true, "9f5a5c9d51562ba7aa655387a10aac3334ee0c21cf39c542b9bb712cae4def3a"), looks := true }, kinds := [], alts := [], laidByText := true, laidKinds := [.sentinel, .sentinel, .sentinel, .sentinel, .sentinel, .sentinel, .data], laidTests := true, laidLooks := .later }
def FnCdReadUptoCardSaid : Prop := Claim7.holds Tryd.pinned (.plain (OpenSpec.upto fnCdReadSpec)) fnCdReadUptoCard
end Rows
end Go.Proofs.YtpagaagghpopiaaDoor
