/- Elements that are few, right and short. -/
import Derived.Test.YtcodfehgnjplcaaGreatDoorA28
import Derived.Test.YtcodfehgnjplcaaGreatDoorEDoc5
import Derived.Test.YtcodfehgnjplcaaGreatDoorEDocFine
namespace Go.Proofs.YtcodfehgnjplcaaGreatDoor.Abs
set_option linter.all false
open Go.Proofs
set_option linter.unusedVariables false
set_option linter.unusedSimpArgs false
set_option maxRecDepth 100000
set_option maxHeartbeats 8000000

theorem c_docFineKids (ks : Ks) (kn : Bool) (hl : ks.len ≤ reachBytes) (hW : ks.wf) : ∀ hE : H, callω fns 31 [Ks.av 5 66 ks kn] hE = some (.bool ((ks.tr kn).fine 300 5000), hE) := by
  intro hE
  refine run31 (Nat.le_of_ble_eq_true rfl) ?_
  have h := c_docFine (ks.tr kn) (by simp [Ks.tr, Tr.wf, bl, hl, hW, IntKind.min, IntKind.max, IntKind.signed, IntKind.bits])
  simp only [Ks.tr, Tr.cells] at h
  have e1 : bAV 5 none = AV.slice .nil 0 1 [] := rfl
  rw [e1] at h
  simp [h]
  rfl
end Go.Proofs.YtcodfehgnjplcaaGreatDoor.Abs
