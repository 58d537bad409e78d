/-
  DERIVED. GIVEN WITH THE SEED: THE CARDS: each row of YtdnfnobgeddbfaaGreatDoorRows.lean that lists a variable, with what it lists TIED to the program's text (the seventh form; the later family's looks); each row that meets fmt, with fmt's text TOLD by the authors' own Lean function (tested against real Go, not proved from fmt's source: count such statements apart). THE CARD IS WHAT COUNTS. Prove the row's statement (the work); the ties are given (YtdnfnobgeddbfaaGreatDoorTie.lean); close each card by the builder's one call (the guide's Derived/Test/ToyasCard.lean, 'card_holds'). Laid BY PROGRAM, IN A SANDBOX (cutbox-door.mjs). By AI agents, Wed Nov 11 2026. No macro, syntax, notation, axiom, sorry.
-/
import Derived.Test.YtdnfnobgeddbfaaGreatDoorRows
import GoSem.ClaimSeven
namespace Go.Proofs.YtdnfnobgeddbfaaGreatDoor
namespace Rows

/-- THE TIED CARD OF 'laws.FnBindLayers'. -/
def fnBindLayersCard : Claim7 := { stood := { row := fnBindLayersRow, standIns := [], harness := (true, "ef8be73a77a6b24aec848762a281cb203de5c56ebc82c6acde09be9e88714f25"), looks := true }, kinds := [], alts := [], laidByText := true, laidKinds := [.sentinel, .sentinel, .sentinel, .sentinel], laidTests := true, laidLooks := .later }
def FnBindLayersCardSaid : Prop := Claim7.holds Tryz.pinned (.plain (OpenSpec.ofChange fnBindLayersSpec)) fnBindLayersCard

/-- THE SECOND FORM's CARD OF 'laws.FnBindLayers'. -/
def fnBindLayersUptoCard : Claim7 := { stood := { row := fnBindLayersUptoRow, standIns := [], harness := (true, "ef8be73a77a6b24aec848762a281cb203de5c56ebc82c6acde09be9e88714f25"), looks := true }, kinds := [], alts := [], laidByText := true, laidKinds := [.sentinel, .sentinel, .sentinel, .sentinel], laidTests := true, laidLooks := .later }
def FnBindLayersUptoCardSaid : Prop := Claim7.holds Tryz.pinned (.plain (OpenSpec.upto fnBindLayersSpec)) fnBindLayersUptoCard
end Rows
end Go.Proofs.YtdnfnobgeddbfaaGreatDoor
