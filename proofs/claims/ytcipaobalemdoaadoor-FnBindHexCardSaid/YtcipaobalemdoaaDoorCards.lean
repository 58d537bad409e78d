/-
  DERIVED. GIVEN WITH THE SEED: THE CARDS: each row of YtcipaobalemdoaaDoorRows.lean that lists a variable, with what it lists TIED to the program's text (the seventh form; the later family's looks); each row that meets fmt, with fmt's text TOLD by the authors' own Lean function (tested against real Go, not proved from fmt's source: count such statements apart). THE CARD IS WHAT COUNTS. Prove the row's statement (the work); the ties are given (YtcipaobalemdoaaDoorTie.lean); close each card by the builder's one call (the guide's Derived/Test/ToyasCard.lean, 'card_holds'). Laid BY PROGRAM, IN A SANDBOX (cutbox-door.mjs). By AI agents, Wed Nov 11 2026. No macro, syntax, notation, axiom, sorry.
-/
import Derived.Test.YtcipaobalemdoaaDoorRows
import GoSem.ClaimSeven
namespace Go.Proofs.YtcipaobalemdoaaDoor
namespace Rows

/-- THE TIED CARD OF 'laws.FnExtQuoteText'. -/
def fnExtQuoteTextCard : Claim7 := { stood := { row := fnExtQuoteTextRow, standIns := [], harness := (true, "1b92a2ae2750d34f2ed32f50bfc8db62e50c4b68c2f97d6bf7c754daf381f946"), looks := true }, kinds := [], alts := [], laidByText := true, laidKinds := [.data, .sentinel, .data, .data, .pinned], laidTests := true, laidLooks := .later }
def FnExtQuoteTextCardSaid : Prop := Claim7.holds Tryd.pinned (.plain (OpenSpec.ofChange fnExtQuoteTextSpec)) fnExtQuoteTextCard

/-- THE TIED CARD OF 'laws.FnTextQuote'. -/
def fnTextQuoteCard : Claim7 := { stood := { row := fnTextQuoteRow, standIns := [], harness := (true, "1b92a2ae2750d34f2ed32f50bfc8db62e50c4b68c2f97d6bf7c754daf381f946"), looks := true }, kinds := [], alts := [], laidByText := true, laidKinds := [.data, .sentinel, .data, .data, .data, .data, .pinned], laidTests := true, laidLooks := .later }
def FnTextQuoteCardSaid : Prop := Claim7.holds Tryd.pinned (.plain (OpenSpec.ofChange fnTextQuoteSpec)) fnTextQuoteCard

/-- THE TIED CARD OF 'laws.FnExtBase64'. -/
def fnExtBase64Card : Claim7 := { stood := { row := fnExtBase64Row, standIns := [], harness := (true, "1b92a2ae2750d34f2ed32f50bfc8db62e50c4b68c2f97d6bf7c754daf381f946"), looks := true }, kinds := [], alts := [], laidByText := true, laidKinds := [.data, .data, .data, .sentinel, .sentinel], laidTests := true, laidLooks := .later }
def FnExtBase64CardSaid : Prop := Claim7.holds Tryd.pinned (.plain (OpenSpec.ofChange fnExtBase64Spec)) fnExtBase64Card

/-- THE TIED CARD OF 'laws.FnVectorFloats'. -/
def fnVectorFloatsCard : Claim7 := { stood := { row := fnVectorFloatsRow, standIns := [], harness := (true, "1b92a2ae2750d34f2ed32f50bfc8db62e50c4b68c2f97d6bf7c754daf381f946"), looks := true }, kinds := [], alts := [], laidByText := true, laidKinds := [.sentinel, .sentinel, .sentinel], laidTests := true, laidLooks := .later }
def FnVectorFloatsCardSaid : Prop := Claim7.holds Tryd.pinned (.plain (OpenSpec.ofChange fnVectorFloatsSpec)) fnVectorFloatsCard

/-- THE TIED CARD OF 'laws.FnBindHex'. -/
def fnBindHexCard : Claim7 := { stood := { row := fnBindHexRow, standIns := [], harness := (true, "1b92a2ae2750d34f2ed32f50bfc8db62e50c4b68c2f97d6bf7c754daf381f946"), looks := true }, kinds := [], alts := [], laidByText := true, laidKinds := [.sentinel, .sentinel, .data], laidTests := true, laidLooks := .later }
def FnBindHexCardSaid : Prop := Claim7.holds Tryd.pinned (.plain (OpenSpec.ofChange fnBindHexSpec)) fnBindHexCard

/-- THE SECOND FORM's CARD OF 'laws.FnExtQuoteText'. -/
def fnExtQuoteTextUptoCard : Claim7 := { stood := { row := fnExtQuoteTextUptoRow, standIns := [], harness := (true, "1b92a2ae2750d34f2ed32f50bfc8db62e50c4b68c2f97d6bf7c754daf381f946"), looks := true }, kinds := [], alts := [], laidByText := true, laidKinds := [.data, .sentinel, .data, .data, .pinned], laidTests := true, laidLooks := .later }
def FnExtQuoteTextUptoCardSaid : Prop := Claim7.holds Tryd.pinned (.plain (OpenSpec.upto fnExtQuoteTextSpec)) fnExtQuoteTextUptoCard

/-- THE SECOND FORM's CARD OF 'laws.FnTextQuote'. -/
def fnTextQuoteUptoCard : Claim7 := { stood := { row := fnTextQuoteUptoRow, standIns := [], harness := (true, "1b92a2ae2750d34f2ed32f50bfc8db62e50c4b68c2f97d6bf7c754daf381f946"), looks := true }, kinds := [], alts := [], laidByText := true, laidKinds := [.data, .sentinel, .data, .data, .data, .data, .pinned], laidTests := true, laidLooks := .later }
def FnTextQuoteUptoCardSaid : Prop := Claim7.holds Tryd.pinned (.plain (OpenSpec.upto fnTextQuoteSpec)) fnTextQuoteUptoCard

/-- THE SECOND FORM's CARD OF 'laws.FnExtBase64'. -/
def fnExtBase64UptoCard : Claim7 := { stood := { row := fnExtBase64UptoRow, standIns := [], harness := (true, "1b92a2ae2750d34f2ed32f50bfc8db62e50c4b68c2f97d6bf7c754daf381f946"), looks := true }, kinds := [], alts := [], laidByText := true, laidKinds := [.data, .data, .data, .sentinel, .sentinel], laidTests := true, laidLooks := .later }
def FnExtBase64UptoCardSaid : Prop := Claim7.holds Tryd.pinned (.plain (OpenSpec.upto fnExtBase64Spec)) fnExtBase64UptoCard

/-- THE SECOND FORM's CARD OF 'laws.FnVectorFloats'. -/
def fnVectorFloatsUptoCard : Claim7 := { stood := { row := fnVectorFloatsUptoRow, standIns := [], harness := (true, "1b92a2ae2750d34f2ed32f50bfc8db62e50c4b68c2f97d6bf7c754daf381f946"), looks := true }, kinds := [], alts := [], laidByText := true, laidKinds := [.sentinel, .sentinel, .sentinel], laidTests := true, laidLooks := .later }
def FnVectorFloatsUptoCardSaid : Prop := Claim7.holds Tryd.pinned (.plain (OpenSpec.upto fnVectorFloatsSpec)) fnVectorFloatsUptoCard

/-- THE SECOND FORM's CARD OF 'laws.FnBindHex'. -/
def fnBindHexUptoCard : Claim7 := { stood := { row := fnBindHexUptoRow, standIns := [], harness := (true, "1b92a2ae2750d34f2ed32f50bfc8db62e50c4b68c2f97d6bf7c754daf381f946"), looks := true }, kinds := [], alts := [], laidByText := true, laidKinds := [.sentinel, .sentinel, .data], laidTests := true, laidLooks := .later }
def FnBindHexUptoCardSaid : Prop := Claim7.holds Tryd.pinned (.plain (OpenSpec.upto fnBindHexSpec)) fnBindHexUptoCard
end Rows
end Go.Proofs.YtcipaobalemdoaaDoor
