/- Copies of bytes. -/
import Derived.Test.YticoldgiebmmgaaGreatDoorTR9
import Derived.Test.YticoldgiebmmgaaGreatDoorFDocG
namespace Go.Proofs.YticoldgiebmmgaaGreatDoor.Abs
set_option linter.all false
open Go.Proofs
set_option linter.unusedVariables false
set_option linter.unusedSimpArgs false
set_option maxRecDepth 100000
set_option maxHeartbeats 4000000

theorem c_docCopy (o : Option (List UInt8)) (hl : (bl o).length ≤ 1073741824) : ∀ h : H, callω fns 11 [bAV 5 o] h = some ((BS.own true (bl o)).av 5, h) := by
  intro h
  refine run11 (Nat.le_of_ble_eq_true rfl) ?_
  have h1 : ∀ h : H, apV h 5 1 1 false (.slice (.own true) 5 1 []) (bAV 5 o) = some ((BS.own true (bl o)).av 5) := fun h => by
    have := apV_b (hp := h) (e := 5) (o := o) (b := .own true []) (by simp [BS.l, tooLong]; omega)
    exact this
  simp [h1]
end Go.Proofs.YticoldgiebmmgaaGreatDoor.Abs
