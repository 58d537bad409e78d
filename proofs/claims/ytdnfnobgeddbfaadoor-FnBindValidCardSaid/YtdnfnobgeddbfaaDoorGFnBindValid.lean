/- No package variable is asked where FnBindValid begins. -/
import Derived.Test.YtdnfnobgeddbfaaDoorEFnBindValid
import Derived.Test.YtdnfnobgeddbfaaDoorRows
import Derived.Test.YtdnfnobgeddbfaaDoorA25
import Derived.Test.YtdnfnobgeddbfaaDoorA28
import Derived.ProofKit
import Derived.MakeChecks
import Derived.OpenShut
import Derived.ChangeArms
import Derived.FnData
namespace Go.Proofs.YtdnfnobgeddbfaaDoor.Abs0
open Go Go.Proofs Go.Proofs.YtdnfnobgeddbfaaDoor.Abs Go.ChangeShapes
set_option linter.all false
set_option linter.unusedVariables false
set_option maxRecDepth 100000

def Γ0 : Nat → Option (List AV) := fun _ => none
theorem globs {W : World} (hL : laidMetH Tryd.prog Rows.fnBindValidRow.laid W) : ∀ g xs, Γ0 g = some xs → CR W ⟨allF W, fun _ => none⟩ (.eptr xs) (.pointer (some ⟨g, 0, none⟩)) := by
  intro g xs hg
  cases hg
end Go.Proofs.YtdnfnobgeddbfaaDoor.Abs0
