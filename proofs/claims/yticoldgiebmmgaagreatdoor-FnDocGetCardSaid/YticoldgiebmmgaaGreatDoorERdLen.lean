/- Copies, and lengths read. -/
import Derived.Test.YticoldgiebmmgaaGreatDoorERd32
namespace Go.Proofs.YticoldgiebmmgaaGreatDoor.Abs
set_option linter.all false
open Go.Proofs
set_option linter.unusedVariables false
set_option linter.unusedSimpArgs false
set_option maxRecDepth 100000
set_option maxHeartbeats 8000000

theorem c_ReadLength_short (o : Option (List UInt8)) (h : (bl o).length < 4) : ∀ hE : H, callω fns 77 [bAV 5 o] hE = some (.tup [.int .i32 0, bAV 5 o, .bool false], hE) := by
  intro hE
  refine run77 (Nat.le_of_ble_eq_true rfl) ?_
  simp [c_ReadI32_short o h, exV]
theorem c_ReadLength (a b c d : UInt8) (r : List UInt8) : ∀ hE : H, callω fns 77 [bAV 5 (some (a :: b :: c :: d :: r))] hE = some (.tup [.int .i32 (rd32 a b c d), bAV 5 (some r), .bool (decide (0 ≤ rd32 a b c d))], hE) := by
  intro hE
  refine run77 (Nat.le_of_ble_eq_true rfl) ?_
  by_cases h : rd32 a b c d < 0
  · have h' : ¬ 0 ≤ rd32 a b c d := by omega
    simp [c_ReadI32, exV, h, h']
  · have h' : 0 ≤ rd32 a b c d := by omega
    simp [c_ReadI32, exV, h, h']

end Go.Proofs.YticoldgiebmmgaaGreatDoor.Abs
