/- The law's small words for FnDocGet. -/
import Derived.Test.YticoldgiebmmgaaGreatDoorEGetX
namespace Go.Proofs.YticoldgiebmmgaaGreatDoor.Abs
set_option linter.all false
open Go.Proofs
set_option linter.unusedVariables false
set_option linter.unusedSimpArgs false
set_option maxRecDepth 100000
set_option maxHeartbeats 4000000

theorem c_docModest (o : Option (List UInt8)) : ∀ hE : H, callω fns 6 [bAV 5 o] hE = some (.bool (decide ((bl o).length ≤ 5000)), hE) := by
  intro hE
  refine run6 (Nat.le_of_ble_eq_true rfl) ?_
  simp; omega
theorem c_docByte (k : Int) : ∀ hE : H, callω fns 5 [.int .i64 k] hE = some (.bool (decide (0 ≤ k ∧ k ≤ 255)), hE) := by
  intro hE
  by_cases g : 0 ≤ k
  · refine run5 (Nat.le_of_ble_eq_true rfl) ?_
    simp [g]
  · refine run5 (Nat.le_of_ble_eq_true rfl) ?_
    simp [g]
theorem c_DocKnownG (k : Int) : ∀ hE : H, callω fns 17 [.int .i64 k] hE = some (.bool (decide ((1 ≤ k ∧ k ≤ 19) ∨ k = 255 ∨ k = 127)), hE) := by
  intro hE
  refine run17 (Nat.le_of_ble_eq_true rfl) ?_
  by_cases h1 : 1 ≤ k <;> by_cases h2 : k ≤ 19 <;> by_cases h3 : k = 255 <;> by_cases h4 : k = 127 <;>
  simp [h1, h2, h3, h4]
def mthK (k : Int) : Bool := decide (((1 ≤ k ∧ k ≤ 19) ∨ k = 255 ∨ k = 127) ∧ k ≠ 6 ∧ k ≠ 10 ∧ k ≠ 255 ∧ k ≠ 127)
theorem c_docMethod (k : Int) : ∀ hE : H, callω fns 9 [.int .i64 k] hE = some (.bool (mthK k), hE) := by
  intro hE
  have h := c_DocKnownG k
  by_cases g : (1 ≤ k ∧ k ≤ 19) ∨ k = 255 ∨ k = 127
  · rw [decide_eq_true g] at h
    by_cases h3 : k = 6
    · subst h3
      refine run9 (Nat.le_of_ble_eq_true rfl) ?_
      simp [h, mthK]
    by_cases h4 : k = 10
    · subst h4
      refine run9 (Nat.le_of_ble_eq_true rfl) ?_
      simp [h, mthK]
    by_cases h5 : k = 255
    · subst h5
      refine run9 (Nat.le_of_ble_eq_true rfl) ?_
      simp [h, mthK]
    by_cases h6 : k = 127
    · subst h6
      refine run9 (Nat.le_of_ble_eq_true rfl) ?_
      simp [h, mthK]
    refine run9 (Nat.le_of_ble_eq_true rfl) ?_
    have g' : 1 ≤ k ∧ k ≤ 19 := by omega
    simp [h, mthK, g', h3, h4, h5, h6]
  · rw [decide_eq_false g] at h
    refine run9 (Nat.le_of_ble_eq_true rfl) ?_
    simp [h, mthK, g]
end Go.Proofs.YticoldgiebmmgaaGreatDoor.Abs
