/- No package variable is asked where FnVectorFloats begins. -/
import Derived.Test.YtjlioidknhdceaaDoorEFnVectorFloats
import Derived.Test.YtjlioidknhdceaaDoorRows
import Derived.Test.YtjlioidknhdceaaDoorA25
import Derived.Test.YtjlioidknhdceaaDoorA28
import Derived.ProofKit
import Derived.MakeChecks
import Derived.OpenShut
import Derived.ChangeArms
import Derived.FnData
namespace Go.Proofs.YtjlioidknhdceaaDoor.Abs0
open Go Go.Proofs Go.Proofs.YtjlioidknhdceaaDoor.Abs Go.ChangeShapes
set_option linter.all false
set_option linter.unusedVariables false
set_option maxRecDepth 100000

def Γ0 : Nat → Option (List AV) := fun _ => none
theorem globs {W : World} (hL : laidMetH Tryd.prog Rows.fnVectorFloatsRow.laid W) : ∀ g xs, Γ0 g = some xs → CR W ⟨allF W, fun _ => none⟩ (.eptr xs) (.pointer (some ⟨g, 0, none⟩)) := by
  intro g xs hg
  cases hg
end Go.Proofs.YtjlioidknhdceaaDoor.Abs0
