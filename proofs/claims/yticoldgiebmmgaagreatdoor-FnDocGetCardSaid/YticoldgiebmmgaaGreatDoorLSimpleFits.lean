/- What is read of bytes, texts, numbers. -/
import Derived.Test.YticoldgiebmmgaaGreatDoorTR9
import Derived.Test.YticoldgiebmmgaaGreatDoorProg
import Derived.KernelRfl
namespace Go.Proofs.YticoldgiebmmgaaGreatDoor.Abs
set_option linter.all false
set_option linter.unusedVariables false
open Go.Proofs

end Go.Proofs.YticoldgiebmmgaaGreatDoor.Abs
