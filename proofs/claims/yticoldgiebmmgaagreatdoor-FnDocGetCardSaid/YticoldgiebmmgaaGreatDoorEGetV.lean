/- What the specification takes of kinds that are none. -/
import Derived.Test.YticoldgiebmmgaaGreatDoorEGetU
namespace Go.Proofs.YticoldgiebmmgaaGreatDoor.Abs
set_option linter.all false
open Go.Proofs
set_option linter.unusedVariables false
set_option linter.unusedSimpArgs false
set_option maxRecDepth 100000
set_option maxHeartbeats 4000000

theorem take_unknown {k : Int} (hk : k ≠ 1 ∧ k ≠ 2 ∧ k ≠ 3 ∧ k ≠ 4 ∧ k ≠ 5 ∧ k ≠ 6 ∧ k ≠ 7 ∧ k ≠ 8 ∧ k ≠ 9 ∧ k ≠ 10 ∧ k ≠ 11 ∧ k ≠ 12 ∧ k ≠ 13 ∧ k ≠ 14 ∧ k ≠ 15 ∧ k ≠ 16 ∧ k ≠ 17 ∧ k ≠ 18 ∧ k ≠ 19 ∧ k ≠ 127 ∧ k ≠ 255) (o : Option (List UInt8)) :
    ∀ hE : H, callω fns 8 [.int .i64 k, bAV 5 o] hE = some (.tup [.agg zC8, .int .i64 0, .bool false], hE) :=
  d_no k o (c_LenNone hk o) (by omega)
end Go.Proofs.YticoldgiebmmgaaGreatDoor.Abs
