/-
  DERIVED. GIVEN WITH THE SEED: THE CARDS: each row of YtpinoabhaaemfaaDoorRows.lean that lists a variable, with what it lists TIED to the program's text (the seventh form; the later family's looks); each row that meets fmt, with fmt's text TOLD by the authors' own Lean function (tested against real Go, not proved from fmt's source: count such statements apart). THE CARD IS WHAT COUNTS. Prove the row's statement (the work); the ties are given (YtpinoabhaaemfaaDoorTie.lean); close each card by the builder's one call (the guide's Derived/Test/ToyasCard.lean, 'card_holds'). Laid BY PROGRAM, IN A SANDBOX (cutbox-door.mjs). By AI agents, Wed Nov 11 2026. No macro, syntax, notation, axiom, sorry.
-/
import Derived.Test.YtpinoabhaaemfaaDoorRows
import GoSem.ClaimSeven
namespace Go.Proofs.YtpinoabhaaemfaaDoor
namespace Rows

/-- THE TIED CARD OF 'laws.FnExtQuoteText'. -/
def fnExtQuoteTextCard : Claim7 := { stood := { row := fnExtQuoteTextRow, standIns := [], harness := (true, "3b3ee6eb3d834ec73fd9dc0966d0c4572e0e5c3fb19898234b36f1e06f87090b"), looks := false }, kinds := [], alts := [], laidByText := true, laidKinds := [.data, .sentinel, .data, .data, .pinned], laidTests := true, laidLooks := .later }
def FnExtQuoteTextCardSaid : Prop := Claim7.holds Tryd.pinned (.plain (OpenSpec.ofChange fnExtQuoteTextSpec)) fnExtQuoteTextCard

/-- THE TIED CARD OF 'laws.FnTextQuote'. -/
def fnTextQuoteCard : Claim7 := { stood := { row := fnTextQuoteRow, standIns := [], harness := (true, "3b3ee6eb3d834ec73fd9dc0966d0c4572e0e5c3fb19898234b36f1e06f87090b"), looks := false }, kinds := [], alts := [], laidByText := true, laidKinds := [.data, .sentinel, .data, .data, .data, .data, .pinned], laidTests := true, laidLooks := .later }
def FnTextQuoteCardSaid : Prop := Claim7.holds Tryd.pinned (.plain (OpenSpec.ofChange fnTextQuoteSpec)) fnTextQuoteCard

/-- THE SECOND FORM's CARD OF 'laws.FnExtQuoteText'. -/
def fnExtQuoteTextUptoCard : Claim7 := { stood := { row := fnExtQuoteTextUptoRow, standIns := [], harness := (true, "3b3ee6eb3d834ec73fd9dc0966d0c4572e0e5c3fb19898234b36f1e06f87090b"), looks := false }, kinds := [], alts := [], laidByText := true, laidKinds := [.data, .sentinel, .data, .data, .pinned], laidTests := true, laidLooks := .later }
def FnExtQuoteTextUptoCardSaid : Prop := Claim7.holds Tryd.pinned (.plain (OpenSpec.upto fnExtQuoteTextSpec)) fnExtQuoteTextUptoCard

/-- THE SECOND FORM's CARD OF 'laws.FnTextQuote'. -/
def fnTextQuoteUptoCard : Claim7 := { stood := { row := fnTextQuoteUptoRow, standIns := [], harness := (true, "3b3ee6eb3d834ec73fd9dc0966d0c4572e0e5c3fb19898234b36f1e06f87090b"), looks := false }, kinds := [], alts := [], laidByText := true, laidKinds := [.data, .sentinel, .data, .data, .data, .data, .pinned], laidTests := true, laidLooks := .later }
def FnTextQuoteUptoCardSaid : Prop := Claim7.holds Tryd.pinned (.plain (OpenSpec.upto fnTextQuoteSpec)) fnTextQuoteUptoCard
end Rows
end Go.Proofs.YtpinoabhaaemfaaDoor
