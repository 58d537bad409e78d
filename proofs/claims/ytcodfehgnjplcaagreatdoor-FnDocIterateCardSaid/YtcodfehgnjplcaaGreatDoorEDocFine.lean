/- Values that are few, right and short. -/
import Derived.Test.YtcodfehgnjplcaaGreatDoorA28
import Derived.Test.YtcodfehgnjplcaaGreatDoorEDoc5
namespace Go.Proofs.YtcodfehgnjplcaaGreatDoor.Abs
set_option linter.all false
open Go.Proofs
set_option linter.unusedVariables false
set_option linter.unusedSimpArgs false
set_option maxRecDepth 100000
set_option maxHeartbeats 8000000

theorem c_docFine (v : Tr) (hW : v.wf) : ∀ hE : H, callω fns 23 [.agg (v.cells 5 66)] hE = some (.bool (v.fine 300 5000), hE) := by
  intro hE
  refine run23 (Nat.le_of_ble_eq_true rfl) ?_
  have h1 := c_docCount v 300 hW (by omega) (by omega)
  have h2 := c_DocRight v hW
  have h3 := c_docBytes v hW
  unfold Tr.fine
  simp only [Int.cast_ofNat_Int]
  generalize hc : v.count 300 = c at *
  generalize hr : v.right 200 = cr at *
  generalize hn : IntKind.i64.wrap v.nb = cn at *
  clear hc hr hn
  cases v with
  | mk k t m n bi hi b kn ks =>
  simp only [Tr.cells] at h1 h2 h3 ⊢
  by_cases c3 : c ≤ 300
  case neg => simp [h1, c3]
  cases cr
  · simp [h1, h2, c3]
  · simp [h1, h2, h3, c3]

end Go.Proofs.YtcodfehgnjplcaaGreatDoor.Abs
