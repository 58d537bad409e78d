/-
  DERIVED. GIVEN WITH THE SEED: THE CARDS: each row of YtcodfehgnjplcaaGreatDoorRows.lean that lists a variable, with what it lists TIED to the program's text (the seventh form; the later family's looks); each row that meets fmt, with fmt's text TOLD by the authors' own Lean function (tested against real Go, not proved from fmt's source: count such statements apart). THE CARD IS WHAT COUNTS. Prove the row's statement (the work); the ties are given (YtcodfehgnjplcaaGreatDoorTie.lean); close each card by the builder's one call (the guide's Derived/Test/ToyasCard.lean, 'card_holds'). Laid BY PROGRAM, IN A SANDBOX (cutbox-door.mjs). By AI agents, Wed Nov 11 2026. No macro, syntax, notation, axiom, sorry.
-/
import Derived.Test.YtcodfehgnjplcaaGreatDoorRows
import GoSem.ClaimSeven
namespace Go.Proofs.YtcodfehgnjplcaaGreatDoor
namespace Rows

/-- THE TIED CARD OF 'laws.FnDocReadLength'. -/
def fnDocReadLengthCard : Claim7 := { stood := { row := fnDocReadLengthRow, standIns := [], harness := (true, "f3ef8f0bfa7e336a5d439623e4194b500dddfa24ba446fc1c11be2f10f1597c8"), looks := true }, kinds := [], alts := [], laidByText := true, laidKinds := [.data, .data, .data, .sentinel, .sentinel, .sentinel, .sentinel], laidTests := true, laidLooks := .later }
def FnDocReadLengthCardSaid : Prop := Claim7.holds Tryz.pinned (.plain (OpenSpec.ofChange fnDocReadLengthSpec)) fnDocReadLengthCard

/-- THE TIED CARD OF 'laws.FnDocAnyValue'. -/
def fnDocAnyValueCard : Claim7 := { stood := { row := fnDocAnyValueRow, standIns := [], harness := (true, "f3ef8f0bfa7e336a5d439623e4194b500dddfa24ba446fc1c11be2f10f1597c8"), looks := true }, kinds := [], alts := [], laidByText := true, laidKinds := [.data, .data, .data, .sentinel, .sentinel, .sentinel, .sentinel], laidTests := true, laidLooks := .later }
def FnDocAnyValueCardSaid : Prop := Claim7.holds Tryz.pinned (.plain (OpenSpec.ofChange fnDocAnyValueSpec)) fnDocAnyValueCard

/-- THE TIED CARD OF 'laws.FnDocArray'. -/
def fnDocArrayCard : Claim7 := { stood := { row := fnDocArrayRow, standIns := [], harness := (true, "f3ef8f0bfa7e336a5d439623e4194b500dddfa24ba446fc1c11be2f10f1597c8"), looks := true }, kinds := [], alts := [], laidByText := true, laidKinds := [.data, .data, .data, .sentinel, .sentinel, .sentinel, .sentinel], laidTests := true, laidLooks := .later }
def FnDocArrayCardSaid : Prop := Claim7.holds Tryz.pinned (.plain (OpenSpec.ofChange fnDocArraySpec)) fnDocArrayCard

/-- THE TIED CARD OF 'laws.FnDocAnyElements'. -/
def fnDocAnyElementsCard : Claim7 := { stood := { row := fnDocAnyElementsRow, standIns := [], harness := (true, "f3ef8f0bfa7e336a5d439623e4194b500dddfa24ba446fc1c11be2f10f1597c8"), looks := true }, kinds := [], alts := [], laidByText := true, laidKinds := [.data, .data, .data, .sentinel, .sentinel, .sentinel, .sentinel], laidTests := true, laidLooks := .later }
def FnDocAnyElementsCardSaid : Prop := Claim7.holds Tryz.pinned (.plain (OpenSpec.ofChange fnDocAnyElementsSpec)) fnDocAnyElementsCard

/-- THE TIED CARD OF 'laws.FnDocElements'. -/
def fnDocElementsCard : Claim7 := { stood := { row := fnDocElementsRow, standIns := [], harness := (true, "f3ef8f0bfa7e336a5d439623e4194b500dddfa24ba446fc1c11be2f10f1597c8"), looks := true }, kinds := [], alts := [], laidByText := true, laidKinds := [.data, .data, .data, .sentinel, .sentinel, .sentinel, .sentinel], laidTests := true, laidLooks := .later }
def FnDocElementsCardSaid : Prop := Claim7.holds Tryz.pinned (.plain (OpenSpec.ofChange fnDocElementsSpec)) fnDocElementsCard

/-- THE TIED CARD OF 'laws.FnDocIterate'. -/
def fnDocIterateCard : Claim7 := { stood := { row := fnDocIterateRow, standIns := [], harness := (true, "f3ef8f0bfa7e336a5d439623e4194b500dddfa24ba446fc1c11be2f10f1597c8"), looks := true }, kinds := [], alts := [], laidByText := true, laidKinds := [.data, .data, .data, .sentinel, .sentinel, .sentinel, .sentinel, .sentinel], laidTests := true, laidLooks := .later }
def FnDocIterateCardSaid : Prop := Claim7.holds Tryz.pinned (.plain (OpenSpec.ofChange fnDocIterateSpec)) fnDocIterateCard

/-- THE TIED CARD OF 'laws.FnDocGet'. -/
def fnDocGetCard : Claim7 := { stood := { row := fnDocGetRow, standIns := [], harness := (true, "f3ef8f0bfa7e336a5d439623e4194b500dddfa24ba446fc1c11be2f10f1597c8"), looks := true }, kinds := [], alts := [], laidByText := true, laidKinds := [.data, .data, .data, .sentinel, .sentinel, .sentinel, .sentinel], laidTests := true, laidLooks := .later }
def FnDocGetCardSaid : Prop := Claim7.holds Tryz.pinned (.plain (OpenSpec.ofChange fnDocGetSpec)) fnDocGetCard

/-- THE TIED CARD OF 'laws.FnBindLayersValue'. -/
def fnBindLayersValueCard : Claim7 := { stood := { row := fnBindLayersValueRow, standIns := [], harness := (true, "f3ef8f0bfa7e336a5d439623e4194b500dddfa24ba446fc1c11be2f10f1597c8"), looks := true }, kinds := [], alts := [], laidByText := true, laidKinds := [.sentinel, .sentinel, .sentinel, .sentinel], laidTests := true, laidLooks := .later }
def FnBindLayersValueCardSaid : Prop := Claim7.holds Tryz.pinned (.plain (OpenSpec.ofChange fnBindLayersValueSpec)) fnBindLayersValueCard

/-- THE SECOND FORM's CARD OF 'laws.FnDocReadLength'. -/
def fnDocReadLengthUptoCard : Claim7 := { stood := { row := fnDocReadLengthUptoRow, standIns := [], harness := (true, "f3ef8f0bfa7e336a5d439623e4194b500dddfa24ba446fc1c11be2f10f1597c8"), looks := true }, kinds := [], alts := [], laidByText := true, laidKinds := [.data, .data, .data, .sentinel, .sentinel, .sentinel, .sentinel], laidTests := true, laidLooks := .later }
def FnDocReadLengthUptoCardSaid : Prop := Claim7.holds Tryz.pinned (.plain (OpenSpec.upto fnDocReadLengthSpec)) fnDocReadLengthUptoCard

/-- THE SECOND FORM's CARD OF 'laws.FnDocAnyValue'. -/
def fnDocAnyValueUptoCard : Claim7 := { stood := { row := fnDocAnyValueUptoRow, standIns := [], harness := (true, "f3ef8f0bfa7e336a5d439623e4194b500dddfa24ba446fc1c11be2f10f1597c8"), looks := true }, kinds := [], alts := [], laidByText := true, laidKinds := [.data, .data, .data, .sentinel, .sentinel, .sentinel, .sentinel], laidTests := true, laidLooks := .later }
def FnDocAnyValueUptoCardSaid : Prop := Claim7.holds Tryz.pinned (.plain (OpenSpec.upto fnDocAnyValueSpec)) fnDocAnyValueUptoCard

/-- THE SECOND FORM's CARD OF 'laws.FnDocArray'. -/
def fnDocArrayUptoCard : Claim7 := { stood := { row := fnDocArrayUptoRow, standIns := [], harness := (true, "f3ef8f0bfa7e336a5d439623e4194b500dddfa24ba446fc1c11be2f10f1597c8"), looks := true }, kinds := [], alts := [], laidByText := true, laidKinds := [.data, .data, .data, .sentinel, .sentinel, .sentinel, .sentinel], laidTests := true, laidLooks := .later }
def FnDocArrayUptoCardSaid : Prop := Claim7.holds Tryz.pinned (.plain (OpenSpec.upto fnDocArraySpec)) fnDocArrayUptoCard

/-- THE SECOND FORM's CARD OF 'laws.FnDocAnyElements'. -/
def fnDocAnyElementsUptoCard : Claim7 := { stood := { row := fnDocAnyElementsUptoRow, standIns := [], harness := (true, "f3ef8f0bfa7e336a5d439623e4194b500dddfa24ba446fc1c11be2f10f1597c8"), looks := true }, kinds := [], alts := [], laidByText := true, laidKinds := [.data, .data, .data, .sentinel, .sentinel, .sentinel, .sentinel], laidTests := true, laidLooks := .later }
def FnDocAnyElementsUptoCardSaid : Prop := Claim7.holds Tryz.pinned (.plain (OpenSpec.upto fnDocAnyElementsSpec)) fnDocAnyElementsUptoCard

/-- THE SECOND FORM's CARD OF 'laws.FnDocElements'. -/
def fnDocElementsUptoCard : Claim7 := { stood := { row := fnDocElementsUptoRow, standIns := [], harness := (true, "f3ef8f0bfa7e336a5d439623e4194b500dddfa24ba446fc1c11be2f10f1597c8"), looks := true }, kinds := [], alts := [], laidByText := true, laidKinds := [.data, .data, .data, .sentinel, .sentinel, .sentinel, .sentinel], laidTests := true, laidLooks := .later }
def FnDocElementsUptoCardSaid : Prop := Claim7.holds Tryz.pinned (.plain (OpenSpec.upto fnDocElementsSpec)) fnDocElementsUptoCard

/-- THE SECOND FORM's CARD OF 'laws.FnDocIterate'. -/
def fnDocIterateUptoCard : Claim7 := { stood := { row := fnDocIterateUptoRow, standIns := [], harness := (true, "f3ef8f0bfa7e336a5d439623e4194b500dddfa24ba446fc1c11be2f10f1597c8"), looks := true }, kinds := [], alts := [], laidByText := true, laidKinds := [.data, .data, .data, .sentinel, .sentinel, .sentinel, .sentinel, .sentinel], laidTests := true, laidLooks := .later }
def FnDocIterateUptoCardSaid : Prop := Claim7.holds Tryz.pinned (.plain (OpenSpec.upto fnDocIterateSpec)) fnDocIterateUptoCard

/-- THE SECOND FORM's CARD OF 'laws.FnDocGet'. -/
def fnDocGetUptoCard : Claim7 := { stood := { row := fnDocGetUptoRow, standIns := [], harness := (true, "f3ef8f0bfa7e336a5d439623e4194b500dddfa24ba446fc1c11be2f10f1597c8"), looks := true }, kinds := [], alts := [], laidByText := true, laidKinds := [.data, .data, .data, .sentinel, .sentinel, .sentinel, .sentinel], laidTests := true, laidLooks := .later }
def FnDocGetUptoCardSaid : Prop := Claim7.holds Tryz.pinned (.plain (OpenSpec.upto fnDocGetSpec)) fnDocGetUptoCard

/-- THE SECOND FORM's CARD OF 'laws.FnBindLayersValue'. -/
def fnBindLayersValueUptoCard : Claim7 := { stood := { row := fnBindLayersValueUptoRow, standIns := [], harness := (true, "f3ef8f0bfa7e336a5d439623e4194b500dddfa24ba446fc1c11be2f10f1597c8"), looks := true }, kinds := [], alts := [], laidByText := true, laidKinds := [.sentinel, .sentinel, .sentinel, .sentinel], laidTests := true, laidLooks := .later }
def FnBindLayersValueUptoCardSaid : Prop := Claim7.holds Tryz.pinned (.plain (OpenSpec.upto fnBindLayersValueSpec)) fnBindLayersValueUptoCard
end Rows
end Go.Proofs.YtcodfehgnjplcaaGreatDoor
