/- Right documents' bytes: what is read of them. -/
import Derived.Test.YtjlioidknhdceaaDoorTR7
namespace Go.Proofs.YtjlioidknhdceaaDoor.Abs
set_option linter.all false

def Ks.good : Ks → Prop
  | .nil => True
  | .cons nm v r => plainL nm = true ∧ (∃ d, v.right d = true) ∧ Ks.good r
end Go.Proofs.YtjlioidknhdceaaDoor.Abs
