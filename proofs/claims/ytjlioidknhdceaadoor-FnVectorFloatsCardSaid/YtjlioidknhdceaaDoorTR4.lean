/- Texts read rune by rune: where there is no byte 0, no rune is 0. -/
import Derived.Test.YtjlioidknhdceaaDoorA28
namespace Go.Proofs.YtjlioidknhdceaaDoor.Abs
set_option linter.all false
set_option linter.unusedVariables false

end Go.Proofs.YtjlioidknhdceaaDoor.Abs
