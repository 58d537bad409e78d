/-
  DERIVED. GIVEN WITH THE SEED: THE CARDS: each row of YtdnfnobgeddbfaaDoorRows.lean that lists a variable, with what it lists TIED to the program's text (the seventh form; the later family's looks); each row that meets fmt, with fmt's text TOLD by the authors' own Lean function (tested against real Go, not proved from fmt's source: count such statements apart). THE CARD IS WHAT COUNTS. Prove the row's statement (the work); the ties are given (YtdnfnobgeddbfaaDoorTie.lean); close each card by the builder's one call (the guide's Derived/Test/ToyasCard.lean, 'card_holds'). Laid BY PROGRAM, IN A SANDBOX (cutbox-door.mjs). By AI agents, Wed Nov 11 2026. No macro, syntax, notation, axiom, sorry.
-/
import Derived.Test.YtdnfnobgeddbfaaDoorRows
import GoSem.ClaimSeven
namespace Go.Proofs.YtdnfnobgeddbfaaDoor
namespace Rows

/-- THE TIED CARD OF 'laws.FnBindValue'. -/
def fnBindValueCard : Claim7 := { stood := { row := fnBindValueRow, standIns := [], harness := (true, "e3507c564b3528ce3fd9c5f60058f65dde7f83f38ac82818e082fee4f3bce096"), looks := true }, kinds := [], alts := [], laidByText := true, laidKinds := [.sentinel, .sentinel, .sentinel, .sentinel], laidTests := true, laidLooks := .later }
def FnBindValueCardSaid : Prop := Claim7.holds Tryd.pinned (.plain (OpenSpec.ofChange fnBindValueSpec)) fnBindValueCard

/-- THE TIED CARD OF 'laws.FnBindLookup'. -/
def fnBindLookupCard : Claim7 := { stood := { row := fnBindLookupRow, standIns := [], harness := (true, "e3507c564b3528ce3fd9c5f60058f65dde7f83f38ac82818e082fee4f3bce096"), looks := true }, kinds := [], alts := [], laidByText := true, laidKinds := [.sentinel, .sentinel, .sentinel, .sentinel], laidTests := true, laidLooks := .later }
def FnBindLookupCardSaid : Prop := Claim7.holds Tryd.pinned (.plain (OpenSpec.ofChange fnBindLookupSpec)) fnBindLookupCard

/-- THE TIED CARD OF 'laws.FnBindElements'. -/
def fnBindElementsCard : Claim7 := { stood := { row := fnBindElementsRow, standIns := [], harness := (true, "e3507c564b3528ce3fd9c5f60058f65dde7f83f38ac82818e082fee4f3bce096"), looks := true }, kinds := [], alts := [], laidByText := true, laidKinds := [.sentinel, .sentinel, .sentinel, .sentinel], laidTests := true, laidLooks := .later }
def FnBindElementsCardSaid : Prop := Claim7.holds Tryd.pinned (.plain (OpenSpec.ofChange fnBindElementsSpec)) fnBindElementsCard

/-- THE TIED CARD OF 'laws.FnBindValid'. -/
def fnBindValidCard : Claim7 := { stood := { row := fnBindValidRow, standIns := [], harness := (true, "e3507c564b3528ce3fd9c5f60058f65dde7f83f38ac82818e082fee4f3bce096"), looks := true }, kinds := [], alts := [], laidByText := true, laidKinds := [.sentinel, .sentinel, .sentinel, .sentinel], laidTests := true, laidLooks := .later }
def FnBindValidCardSaid : Prop := Claim7.holds Tryd.pinned (.plain (OpenSpec.ofChange fnBindValidSpec)) fnBindValidCard

/-- THE SECOND FORM's CARD OF 'laws.FnBindValue'. -/
def fnBindValueUptoCard : Claim7 := { stood := { row := fnBindValueUptoRow, standIns := [], harness := (true, "e3507c564b3528ce3fd9c5f60058f65dde7f83f38ac82818e082fee4f3bce096"), looks := true }, kinds := [], alts := [], laidByText := true, laidKinds := [.sentinel, .sentinel, .sentinel, .sentinel], laidTests := true, laidLooks := .later }
def FnBindValueUptoCardSaid : Prop := Claim7.holds Tryd.pinned (.plain (OpenSpec.upto fnBindValueSpec)) fnBindValueUptoCard

/-- THE SECOND FORM's CARD OF 'laws.FnBindLookup'. -/
def fnBindLookupUptoCard : Claim7 := { stood := { row := fnBindLookupUptoRow, standIns := [], harness := (true, "e3507c564b3528ce3fd9c5f60058f65dde7f83f38ac82818e082fee4f3bce096"), looks := true }, kinds := [], alts := [], laidByText := true, laidKinds := [.sentinel, .sentinel, .sentinel, .sentinel], laidTests := true, laidLooks := .later }
def FnBindLookupUptoCardSaid : Prop := Claim7.holds Tryd.pinned (.plain (OpenSpec.upto fnBindLookupSpec)) fnBindLookupUptoCard

/-- THE SECOND FORM's CARD OF 'laws.FnBindElements'. -/
def fnBindElementsUptoCard : Claim7 := { stood := { row := fnBindElementsUptoRow, standIns := [], harness := (true, "e3507c564b3528ce3fd9c5f60058f65dde7f83f38ac82818e082fee4f3bce096"), looks := true }, kinds := [], alts := [], laidByText := true, laidKinds := [.sentinel, .sentinel, .sentinel, .sentinel], laidTests := true, laidLooks := .later }
def FnBindElementsUptoCardSaid : Prop := Claim7.holds Tryd.pinned (.plain (OpenSpec.upto fnBindElementsSpec)) fnBindElementsUptoCard

/-- THE SECOND FORM's CARD OF 'laws.FnBindValid'. -/
def fnBindValidUptoCard : Claim7 := { stood := { row := fnBindValidUptoRow, standIns := [], harness := (true, "e3507c564b3528ce3fd9c5f60058f65dde7f83f38ac82818e082fee4f3bce096"), looks := true }, kinds := [], alts := [], laidByText := true, laidKinds := [.sentinel, .sentinel, .sentinel, .sentinel], laidTests := true, laidLooks := .later }
def FnBindValidUptoCardSaid : Prop := Claim7.holds Tryd.pinned (.plain (OpenSpec.upto fnBindValidSpec)) fnBindValidUptoCard
end Rows
end Go.Proofs.YtdnfnobgeddbfaaDoor
