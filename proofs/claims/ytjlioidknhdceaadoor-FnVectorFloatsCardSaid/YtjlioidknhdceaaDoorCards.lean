/-
  DERIVED. GIVEN WITH THE SEED: THE CARDS: each row of YtjlioidknhdceaaDoorRows.lean that lists a variable, with what it lists TIED to the program's text (the seventh form; the later family's looks); each row that meets fmt, with fmt's text TOLD by the authors' own Lean function (tested against real Go, not proved from fmt's source: count such statements apart). THE CARD IS WHAT COUNTS. Prove the row's statement (the work); the ties are given (YtjlioidknhdceaaDoorTie.lean); close each card by the builder's one call (the guide's Derived/Test/ToyasCard.lean, 'card_holds'). Laid BY PROGRAM, IN A SANDBOX (cutbox-door.mjs). By AI agents, Wed Nov 11 2026. No macro, syntax, notation, axiom, sorry.
-/
import Derived.Test.YtjlioidknhdceaaDoorRows
import GoSem.ClaimSeven
namespace Go.Proofs.YtjlioidknhdceaaDoor
namespace Rows

/-- THE TIED CARD OF 'laws.FnVectorFloats'. -/
def fnVectorFloatsCard : Claim7 := { stood := { row := fnVectorFloatsRow, standIns := [], harness := (true, "ee482b33f29886c425c08f0865fb5f660f05d5d3d4eb87fd7602bbfe66cb32de"), looks := true }, kinds := [], alts := [], laidByText := true, laidKinds := [.sentinel, .sentinel, .sentinel], laidTests := true, laidLooks := .later }
def FnVectorFloatsCardSaid : Prop := Claim7.holds Tryd.pinned (.plain (OpenSpec.ofChange fnVectorFloatsSpec)) fnVectorFloatsCard

/-- THE SECOND FORM's CARD OF 'laws.FnVectorFloats'. -/
def fnVectorFloatsUptoCard : Claim7 := { stood := { row := fnVectorFloatsUptoRow, standIns := [], harness := (true, "ee482b33f29886c425c08f0865fb5f660f05d5d3d4eb87fd7602bbfe66cb32de"), looks := true }, kinds := [], alts := [], laidByText := true, laidKinds := [.sentinel, .sentinel, .sentinel], laidTests := true, laidLooks := .later }
def FnVectorFloatsUptoCardSaid : Prop := Claim7.holds Tryd.pinned (.plain (OpenSpec.upto fnVectorFloatsSpec)) fnVectorFloatsUptoCard
end Rows
end Go.Proofs.YtjlioidknhdceaaDoor
