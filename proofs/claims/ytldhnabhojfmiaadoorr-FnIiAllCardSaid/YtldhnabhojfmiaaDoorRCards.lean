/-
  DERIVED. GIVEN WITH THE SEED: THE CARDS: each row of YtldhnabhojfmiaaDoorRRows.lean that lists a variable, with what it lists TIED to the program's text (the seventh form; the later family's looks); each row that meets fmt, with fmt's text TOLD by the authors' own Lean function (tested against real Go, not proved from fmt's source: count such statements apart). THE CARD IS WHAT COUNTS. Prove the row's statement (the work); the ties are given (YtldhnabhojfmiaaDoorRTie.lean); close each card by the builder's one call (the guide's Derived/Test/ToyasCard.lean, 'card_holds'). Laid BY PROGRAM, IN A SANDBOX (cutbox-door.mjs). By AI agents, Wed Nov 11 2026. No macro, syntax, notation, axiom, sorry.
-/
import Derived.Test.YtldhnabhojfmiaaDoorRRows
import GoSem.ClaimSeven
namespace Go.Proofs.YtldhnabhojfmiaaDoorR
namespace Rows

/-- THE TIED CARD OF 'laws.FnIiAll'. -/
def fnIiAllCard : Claim7 := { stood := { row := fnIiAllRow, standIns := [], harness := (true, "39ca95e3aaac76817b8ca6f4d35e30eef91d7dec52f99c2fd729d5a3d0d2b083"), looks := true }, kinds := [], alts := [], laidByText := true, laidKinds := [.data, .data, .sentinel, .sentinel, .sentinel, .sentinel, .sentinel, .sentinel, .data, .sentinel], laidTests := true, laidLooks := .later }
def FnIiAllCardSaid : Prop := Claim7.holds Tryd.pinned (.plain (OpenSpec.ofChange fnIiAllSpec)) fnIiAllCard

/-- THE TIED CARD OF 'laws.FnIiAgain'. -/
def fnIiAgainCard : Claim7 := { stood := { row := fnIiAgainRow, standIns := [], harness := (true, "39ca95e3aaac76817b8ca6f4d35e30eef91d7dec52f99c2fd729d5a3d0d2b083"), looks := true }, kinds := [], alts := [], laidByText := true, laidKinds := [.data, .data, .sentinel, .sentinel, .sentinel, .sentinel, .sentinel, .sentinel, .data, .sentinel], laidTests := true, laidLooks := .later }
def FnIiAgainCardSaid : Prop := Claim7.holds Tryd.pinned (.plain (OpenSpec.ofChange fnIiAgainSpec)) fnIiAgainCard

/-- THE TIED CARD OF 'laws.FnCdCanon'. -/
def fnCdCanonCard : Claim7 := { stood := { row := fnCdCanonRow, standIns := [], harness := (true, "39ca95e3aaac76817b8ca6f4d35e30eef91d7dec52f99c2fd729d5a3d0d2b083"), looks := true }, kinds := [], alts := [], laidByText := true, laidKinds := [.sentinel, .sentinel, .sentinel, .sentinel, .sentinel, .sentinel, .sentinel, .sentinel, .sentinel, .data], laidTests := true, laidLooks := .later }
def FnCdCanonCardSaid : Prop := Claim7.holds Tryd.pinned (.plain (OpenSpec.ofChange fnCdCanonSpec)) fnCdCanonCard

/-- THE TIED CARD OF 'laws.FnCdCut'. -/
def fnCdCutCard : Claim7 := { stood := { row := fnCdCutRow, standIns := [], harness := (true, "39ca95e3aaac76817b8ca6f4d35e30eef91d7dec52f99c2fd729d5a3d0d2b083"), looks := true }, kinds := [], alts := [], laidByText := true, laidKinds := [.sentinel, .sentinel, .sentinel, .sentinel, .sentinel, .sentinel, .sentinel, .sentinel, .sentinel, .data], laidTests := true, laidLooks := .later }
def FnCdCutCardSaid : Prop := Claim7.holds Tryd.pinned (.plain (OpenSpec.ofChange fnCdCutSpec)) fnCdCutCard

/-- THE SECOND FORM's CARD OF 'laws.FnIiAll'. -/
def fnIiAllUptoCard : Claim7 := { stood := { row := fnIiAllUptoRow, standIns := [], harness := (true, "39ca95e3aaac76817b8ca6f4d35e30eef91d7dec52f99c2fd729d5a3d0d2b083"), looks := true }, kinds := [], alts := [], laidByText := true, laidKinds := [.data, .data, .sentinel, .sentinel, .sentinel, .sentinel, .sentinel, .sentinel, .data, .sentinel], laidTests := true, laidLooks := .later }
def FnIiAllUptoCardSaid : Prop := Claim7.holds Tryd.pinned (.plain (OpenSpec.upto fnIiAllSpec)) fnIiAllUptoCard

/-- THE SECOND FORM's CARD OF 'laws.FnIiAgain'. -/
def fnIiAgainUptoCard : Claim7 := { stood := { row := fnIiAgainUptoRow, standIns := [], harness := (true, "39ca95e3aaac76817b8ca6f4d35e30eef91d7dec52f99c2fd729d5a3d0d2b083"), looks := true }, kinds := [], alts := [], laidByText := true, laidKinds := [.data, .data, .sentinel, .sentinel, .sentinel, .sentinel, .sentinel, .sentinel, .data, .sentinel], laidTests := true, laidLooks := .later }
def FnIiAgainUptoCardSaid : Prop := Claim7.holds Tryd.pinned (.plain (OpenSpec.upto fnIiAgainSpec)) fnIiAgainUptoCard

/-- THE SECOND FORM's CARD OF 'laws.FnCdCanon'. -/
def fnCdCanonUptoCard : Claim7 := { stood := { row := fnCdCanonUptoRow, standIns := [], harness := (true, "39ca95e3aaac76817b8ca6f4d35e30eef91d7dec52f99c2fd729d5a3d0d2b083"), looks := true }, kinds := [], alts := [], laidByText := true, laidKinds := [.sentinel, .sentinel, .sentinel, .sentinel, .sentinel, .sentinel, .sentinel, .sentinel, .sentinel, .data], laidTests := true, laidLooks := .later }
def FnCdCanonUptoCardSaid : Prop := Claim7.holds Tryd.pinned (.plain (OpenSpec.upto fnCdCanonSpec)) fnCdCanonUptoCard

/-- THE SECOND FORM's CARD OF 'laws.FnCdCut'. -/
def fnCdCutUptoCard : Claim7 := { stood := { row := fnCdCutUptoRow, standIns := [], harness := (true, "39ca95e3aaac76817b8ca6f4d35e30eef91d7dec52f99c2fd729d5a3d0d2b083"), looks := true }, kinds := [], alts := [], laidByText := true, laidKinds := [.sentinel, .sentinel, .sentinel, .sentinel, .sentinel, .sentinel, .sentinel, .sentinel, .sentinel, .data], laidTests := true, laidLooks := .later }
def FnCdCutUptoCardSaid : Prop := Claim7.holds Tryd.pinned (.plain (OpenSpec.upto fnCdCutSpec)) fnCdCutUptoCard
end Rows
end Go.Proofs.YtldhnabhojfmiaaDoorR
