/-
  DERIVED. GIVEN WITH THE SEED: THE CARDS: each row of YticoldgiebmmgaaGreatDoorRows.lean that lists a variable, with what it lists TIED to the program's text (the seventh form; the later family's looks); each row that meets fmt, with fmt's text TOLD by the authors' own Lean function (tested against real Go, not proved from fmt's source: count such statements apart). THE CARD IS WHAT COUNTS. Prove the row's statement (the work); the ties are given (YticoldgiebmmgaaGreatDoorTie.lean); close each card by the builder's one call (the guide's Derived/Test/ToyasCard.lean, 'card_holds'). Laid BY PROGRAM, IN A SANDBOX (cutbox-door.mjs). By AI agents, Wed Nov 11 2026. No macro, syntax, notation, axiom, sorry.
-/
import Derived.Test.YticoldgiebmmgaaGreatDoorRows
import GoSem.ClaimSeven
namespace Go.Proofs.YticoldgiebmmgaaGreatDoor
namespace Rows

/-- THE TIED CARD OF 'laws.FnDocGet'. -/
def fnDocGetCard : Claim7 := { stood := { row := fnDocGetRow, standIns := [], harness := (true, "220a09db9b6f67c89fe18ab86a945cdc67246b7e3b1060d624a2c711becadedc"), looks := true }, kinds := [], alts := [], laidByText := true, laidKinds := [.data, .data, .data, .sentinel, .sentinel, .sentinel, .sentinel], laidTests := true, laidLooks := .later }
def FnDocGetCardSaid : Prop := Claim7.holds Tryz.pinned (.plain (OpenSpec.ofChange fnDocGetSpec)) fnDocGetCard

/-- THE SECOND FORM's CARD OF 'laws.FnDocGet'. -/
def fnDocGetUptoCard : Claim7 := { stood := { row := fnDocGetUptoRow, standIns := [], harness := (true, "220a09db9b6f67c89fe18ab86a945cdc67246b7e3b1060d624a2c711becadedc"), looks := true }, kinds := [], alts := [], laidByText := true, laidKinds := [.data, .data, .data, .sentinel, .sentinel, .sentinel, .sentinel], laidTests := true, laidLooks := .later }
def FnDocGetUptoCardSaid : Prop := Claim7.holds Tryz.pinned (.plain (OpenSpec.upto fnDocGetSpec)) fnDocGetUptoCard
end Rows
end Go.Proofs.YticoldgiebmmgaaGreatDoor
