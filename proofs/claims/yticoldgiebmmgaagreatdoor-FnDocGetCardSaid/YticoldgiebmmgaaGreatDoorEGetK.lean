/- How many bytes a value takes, by the specification's stricter word. -/
import Derived.Test.YticoldgiebmmgaaGreatDoorESpanA
import Derived.Test.YticoldgiebmmgaaGreatDoorEGetT
namespace Go.Proofs.YticoldgiebmmgaaGreatDoor.Abs
set_option linter.all false
open Go.Proofs
set_option linter.unusedVariables false
set_option linter.unusedSimpArgs false
set_option maxRecDepth 100000
set_option maxHeartbeats 8000000

theorem num32_ge {l : List UInt8} (h : ¬ 4 ≤ l.length) : num32 l = 0 := num32_short (by omega)
theorem c_LenStr {k : Int} (hk : k = 2 ∨ k = 13 ∨ k = 14) (o : Option (List UInt8)) (hl : (bl o).length ≤ 5000) : ∀ hE : H, callω fns 14 [.int .i64 k, bAV 5 o] hE = some (.tup [.int .i64 (num32 (bl o) + 4), .bool (strOk (bl o))], hE) := by
  intro hE
  have hN := c_DocNumber o
  have hr := num32_range (bl o)
  have hz := fun h : ¬ 4 ≤ (bl o).length => num32_ge h
  have w : IntKind.i64.wrap (4 + num32 (bl o)) = num32 (bl o) + 4 := by rw [wrap_i64 (by omega) (by omega)]; omega
  unfold strOk
  generalize num32 (bl o) = N at *
  by_cases g1 : 4 ≤ (bl o).length
  · by_cases g2 : 1 ≤ N
    · rcases hk with rfl | rfl | rfl <;> (refine run14 (Nat.le_of_ble_eq_true rfl) ?_; simp [hN, w, g1, g2, ex2_0, ex2_1, pkV])
    · rcases hk with rfl | rfl | rfl <;> (refine run14 (Nat.le_of_ble_eq_true rfl) ?_; simp [hN, w, g1, g2, ex2_0, ex2_1, pkV])
  · rcases hk with rfl | rfl | rfl <;> (refine run14 (Nat.le_of_ble_eq_true rfl) ?_; simp [hN, w, g1, ex2_0, ex2_1, pkV])
def docO (l : List UInt8) : Bool := decide (4 ≤ l.length) && (decide (5 ≤ num32 l) && decide (num32 l ≤ l.length))
theorem c_LenDoc {k : Int} (hk : k = 3 ∨ k = 4 ∨ k = 15) (o : Option (List UInt8)) (hl : (bl o).length ≤ 5000) : ∀ hE : H, callω fns 14 [.int .i64 k, bAV 5 o] hE = some (.tup [.int .i64 (num32 (bl o)), .bool (docO (bl o))], hE) := by
  intro hE
  have hN := c_DocNumber o
  unfold docO
  generalize num32 (bl o) = N at *
  by_cases g1 : 4 ≤ (bl o).length
  · by_cases g2 : 5 ≤ N
    · rcases hk with rfl | rfl | rfl <;> (refine run14 (Nat.le_of_ble_eq_true rfl) ?_; simp [hN, g1, g2, ex2_0, ex2_1, pkV])
    · rcases hk with rfl | rfl | rfl <;> (refine run14 (Nat.le_of_ble_eq_true rfl) ?_; simp [hN, g1, g2, ex2_0, ex2_1, pkV])
  · rcases hk with rfl | rfl | rfl <;> (refine run14 (Nat.le_of_ble_eq_true rfl) ?_; simp [hN, g1, ex2_0, ex2_1, pkV])
theorem c_LenDB (o : Option (List UInt8)) (hl : (bl o).length ≤ 5000) : ∀ hE : H, callω fns 14 [.int .i64 12, bAV 5 o] hE = some (.tup [.int .i64 (num32 (bl o) + 16), .bool (dbOk (bl o))], hE) := by
  intro hE
  have hN := c_DocNumber o
  have hr := num32_range (bl o)
  have w : IntKind.i64.wrap (16 + num32 (bl o)) = num32 (bl o) + 16 := by rw [wrap_i64 (by omega) (by omega)]; omega
  have hd : dbOk (bl o) = (decide (4 ≤ (bl o).length) && (decide (1 ≤ num32 (bl o)) && decide (num32 (bl o) + 16 ≤ (bl o).length))) := by
    unfold dbOk strOk
    by_cases g1 : 4 ≤ (bl o).length
    · by_cases g2 : 1 ≤ num32 (bl o)
      · by_cases g3 : num32 (bl o) + 16 ≤ (bl o).length
        · have g4 : num32 (bl o) + 4 ≤ (bl o).length := by omega
          have g5 : (num32 (bl o)).toNat + 16 ≤ (bl o).length := by omega
          simp only [g1, g2, g3, g4, g5, decide_true, Bool.and_self]
        · have g5 : ¬ (num32 (bl o)).toNat + 16 ≤ (bl o).length := by omega
          simp only [g1, g2, g3, g5, decide_true, decide_false, Bool.and_false]
      · simp only [g2, decide_false, Bool.false_and, Bool.and_false]
    · simp only [g1, decide_false, Bool.false_and]
  rw [hd]
  generalize num32 (bl o) = N at *
  by_cases g1 : 4 ≤ (bl o).length
  · by_cases g2 : 1 ≤ N
    · refine run14 (Nat.le_of_ble_eq_true rfl) ?_; simp [hN, w, g1, g2, ex2_0, ex2_1, pkV]
    · refine run14 (Nat.le_of_ble_eq_true rfl) ?_; simp [hN, w, g1, g2, ex2_0, ex2_1, pkV]
  · refine run14 (Nat.le_of_ble_eq_true rfl) ?_; simp [hN, w, g1, ex2_0, ex2_1, pkV]
theorem c_LenBin (o : Option (List UInt8)) (hl : (bl o).length ≤ 5000) : ∀ hE : H, callω fns 14 [.int .i64 5, bAV 5 o] hE = some (.tup [.int .i64 (num32 (bl o) + 5), .bool (binOk (bl o))], hE) := by
  intro hE
  have hN := c_DocNumber o
  have hr := num32_range (bl o)
  have w : IntKind.i64.wrap (5 + num32 (bl o)) = num32 (bl o) + 5 := by rw [wrap_i64 (by omega) (by omega)]; omega
  have hd : binOk (bl o) = (decide (4 ≤ (bl o).length) && (decide (0 ≤ num32 (bl o)) && decide (num32 (bl o) + 5 ≤ (bl o).length))) := by
    unfold binOk
    by_cases g2 : 0 ≤ num32 (bl o)
    · by_cases g3 : num32 (bl o) + 5 ≤ (bl o).length
      · have g1 : 4 ≤ (bl o).length := by omega
        have g4 : 5 ≤ (bl o).length := by omega
        simp only [g1, g4]
      · simp only [g3, decide_false, Bool.and_false]
    · simp only [g2, decide_false, Bool.false_and, Bool.and_false]
  rw [hd]
  generalize num32 (bl o) = N at *
  by_cases g1 : 4 ≤ (bl o).length
  · by_cases g2 : 0 ≤ N
    · refine run14 (Nat.le_of_ble_eq_true rfl) ?_; simp [hN, w, g1, g2, ex2_0, ex2_1, pkV]
    · refine run14 (Nat.le_of_ble_eq_true rfl) ?_; simp [hN, w, g1, g2, ex2_0, ex2_1, pkV]
  · refine run14 (Nat.le_of_ble_eq_true rfl) ?_; simp [hN, w, g1, ex2_0, ex2_1, pkV]
end Go.Proofs.YticoldgiebmmgaaGreatDoor.Abs
