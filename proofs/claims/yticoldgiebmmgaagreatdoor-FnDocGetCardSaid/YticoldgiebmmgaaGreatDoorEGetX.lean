/- Get of a value of another kind than the one asked, and of kinds that have no method. -/
import Derived.Test.YticoldgiebmmgaaGreatDoorEGetW
namespace Go.Proofs.YticoldgiebmmgaaGreatDoor.Abs
set_option linter.all false
open Go.Proofs
set_option linter.unusedVariables false
set_option linter.unusedSimpArgs false
set_option maxRecDepth 100000
set_option maxHeartbeats 8000000

theorem x_1 (rk : Int) (a : 0 ≤ rk) (b : rk < 256) (hne : ¬ rk = 1) (o : Option (List UInt8)) : ∀ hE : H, callv fns 10 [.agg [.int .i64 rk, bAV 5 o], .int .i64 1] hE = some (.tup [.agg zC8, .bool false]) := by
  have h := n_DoubleOK rk o hne
  have hc := c_core rk a b o
  have e0 : bAV 5 none = AV.slice .nil 0 1 [] := rfl
  have h1 := c_one false
  refine cvF fun hE => ?_
  refine run10 (Nat.le_of_ble_eq_true rfl) ?_
  simp [hc, h, h1, own0, zC8, e0, aShift, fbV, ex2_0, ex2_1, ex3_0, ex3_1, ex3_2]
  try rfl
theorem x_2 (rk : Int) (a : 0 ≤ rk) (b : rk < 256) (hne : ¬ rk = 2) (o : Option (List UInt8)) : ∀ hE : H, callv fns 10 [.agg [.int .i64 rk, bAV 5 o], .int .i64 2] hE = some (.tup [.agg zC8, .bool false]) := by
  have h := n_StringValueOK rk o hne
  have hc := c_core rk a b o
  have e0 : bAV 5 none = AV.slice .nil 0 1 [] := rfl
  have h1 := c_one false
  refine cvF fun hE => ?_
  refine run10 (Nat.le_of_ble_eq_true rfl) ?_
  simp [hc, h, h1, own0, zC8, e0, aShift, fbV, ex2_0, ex2_1, ex3_0, ex3_1, ex3_2]
  try rfl
theorem x_3 (rk : Int) (a : 0 ≤ rk) (b : rk < 256) (hne : ¬ rk = 3) (o : Option (List UInt8)) : ∀ hE : H, callv fns 10 [.agg [.int .i64 rk, bAV 5 o], .int .i64 3] hE = some (.tup [.agg zC8, .bool false]) := by
  have h := n_DocumentOK rk o hne
  have hc := c_core rk a b o
  have e0 : bAV 5 none = AV.slice .nil 0 1 [] := rfl
  have h1 := c_one false
  refine cvF fun hE => ?_
  refine run10 (Nat.le_of_ble_eq_true rfl) ?_
  simp [hc, h, h1, own0, zC8, e0, aShift, fbV, ex2_0, ex2_1, ex3_0, ex3_1, ex3_2]
  try rfl
theorem x_4 (rk : Int) (a : 0 ≤ rk) (b : rk < 256) (hne : ¬ rk = 4) (o : Option (List UInt8)) : ∀ hE : H, callv fns 10 [.agg [.int .i64 rk, bAV 5 o], .int .i64 4] hE = some (.tup [.agg zC8, .bool false]) := by
  have h := n_ArrayOK rk o hne
  have hc := c_core rk a b o
  have e0 : bAV 5 none = AV.slice .nil 0 1 [] := rfl
  have h1 := c_one false
  refine cvF fun hE => ?_
  refine run10 (Nat.le_of_ble_eq_true rfl) ?_
  simp [hc, h, h1, own0, zC8, e0, aShift, fbV, ex2_0, ex2_1, ex3_0, ex3_1, ex3_2]
  try rfl
theorem x_5 (rk : Int) (a : 0 ≤ rk) (b : rk < 256) (hne : ¬ rk = 5) (o : Option (List UInt8)) : ∀ hE : H, callv fns 10 [.agg [.int .i64 rk, bAV 5 o], .int .i64 5] hE = some (.tup [.agg zC8, .bool false]) := by
  have h := n_BinaryOK rk o hne
  have hc := c_core rk a b o
  have e0 : bAV 5 none = AV.slice .nil 0 1 [] := rfl
  have h1 := c_one false
  refine cvF fun hE => ?_
  refine run10 (Nat.le_of_ble_eq_true rfl) ?_
  simp [hc, h, h1, own0, zC8, e0, aShift, fbV, ex2_0, ex2_1, ex3_0, ex3_1, ex3_2]
  try rfl
theorem x_7 (rk : Int) (a : 0 ≤ rk) (b : rk < 256) (hne : ¬ rk = 7) (o : Option (List UInt8)) : ∀ hE : H, callv fns 10 [.agg [.int .i64 rk, bAV 5 o], .int .i64 7] hE = some (.tup [.agg zC8, .bool false]) := by
  have h := n_ObjectIDOK rk o hne
  have hc := c_core rk a b o
  have e0 : bAV 5 none = AV.slice .nil 0 1 [] := rfl
  have h1 := c_one false
  intro hE
  have ho := c_ownArr (h := hE.push (.cells (byteCells (List.replicate 12 0)))) (i := hE.n) (n := 12) (l := List.replicate 12 0) (by simp) (by simp) (by omega)
  rw [← z12] at ho
  refine runv10 (Nat.le_of_ble_eq_true rfl) ?_
  simp [hc, h, ho, mkO, zC8, e0, noHeap_old, ex2_0, ex2_1, ex3_0, ex3_1, ex3_2]
  try rfl
theorem x_8 (rk : Int) (a : 0 ≤ rk) (b : rk < 256) (hne : ¬ rk = 8) (o : Option (List UInt8)) : ∀ hE : H, callv fns 10 [.agg [.int .i64 rk, bAV 5 o], .int .i64 8] hE = some (.tup [.agg zC8, .bool false]) := by
  have h := n_BooleanOK rk o hne
  have hc := c_core rk a b o
  have e0 : bAV 5 none = AV.slice .nil 0 1 [] := rfl
  have h1 := c_one false
  refine cvF fun hE => ?_
  refine run10 (Nat.le_of_ble_eq_true rfl) ?_
  simp [hc, h, h1, own0, zC8, e0, aShift, fbV, ex2_0, ex2_1, ex3_0, ex3_1, ex3_2]
  try rfl
theorem x_9 (rk : Int) (a : 0 ≤ rk) (b : rk < 256) (hne : ¬ rk = 9) (o : Option (List UInt8)) : ∀ hE : H, callv fns 10 [.agg [.int .i64 rk, bAV 5 o], .int .i64 9] hE = some (.tup [.agg zC8, .bool false]) := by
  have h := n_DateTimeOK rk o hne
  have hc := c_core rk a b o
  have e0 : bAV 5 none = AV.slice .nil 0 1 [] := rfl
  have h1 := c_one false
  refine cvF fun hE => ?_
  refine run10 (Nat.le_of_ble_eq_true rfl) ?_
  simp [hc, h, h1, own0, zC8, e0, aShift, fbV, ex2_0, ex2_1, ex3_0, ex3_1, ex3_2]
  try rfl
theorem x_11 (rk : Int) (a : 0 ≤ rk) (b : rk < 256) (hne : ¬ rk = 11) (o : Option (List UInt8)) : ∀ hE : H, callv fns 10 [.agg [.int .i64 rk, bAV 5 o], .int .i64 11] hE = some (.tup [.agg zC8, .bool false]) := by
  have h := n_RegexOK rk o hne
  have hc := c_core rk a b o
  have e0 : bAV 5 none = AV.slice .nil 0 1 [] := rfl
  have h1 := c_one false
  refine cvF fun hE => ?_
  refine run10 (Nat.le_of_ble_eq_true rfl) ?_
  simp [hc, h, h1, own0, zC8, e0, aShift, fbV, ex2_0, ex2_1, ex3_0, ex3_1, ex3_2]
  try rfl
theorem x_12 (rk : Int) (a : 0 ≤ rk) (b : rk < 256) (hne : ¬ rk = 12) (o : Option (List UInt8)) : ∀ hE : H, callv fns 10 [.agg [.int .i64 rk, bAV 5 o], .int .i64 12] hE = some (.tup [.agg zC8, .bool false]) := by
  have h := n_DBPointerOK rk o hne
  have hc := c_core rk a b o
  have e0 : bAV 5 none = AV.slice .nil 0 1 [] := rfl
  have h1 := c_one false
  intro hE
  have ho := c_ownArr (h := hE.push (.cells (byteCells (List.replicate 12 0)))) (i := hE.n) (n := 12) (l := List.replicate 12 0) (by simp) (by simp) (by omega)
  rw [← z12] at ho
  refine runv10 (Nat.le_of_ble_eq_true rfl) ?_
  simp [hc, h, ho, mkO, zC8, e0, noHeap_old, ex2_0, ex2_1, ex3_0, ex3_1, ex3_2]
  try rfl
theorem x_13 (rk : Int) (a : 0 ≤ rk) (b : rk < 256) (hne : ¬ rk = 13) (o : Option (List UInt8)) : ∀ hE : H, callv fns 10 [.agg [.int .i64 rk, bAV 5 o], .int .i64 13] hE = some (.tup [.agg zC8, .bool false]) := by
  have h := n_JavaScriptOK rk o hne
  have hc := c_core rk a b o
  have e0 : bAV 5 none = AV.slice .nil 0 1 [] := rfl
  have h1 := c_one false
  refine cvF fun hE => ?_
  refine run10 (Nat.le_of_ble_eq_true rfl) ?_
  simp [hc, h, h1, own0, zC8, e0, aShift, fbV, ex2_0, ex2_1, ex3_0, ex3_1, ex3_2]
  try rfl
theorem x_14 (rk : Int) (a : 0 ≤ rk) (b : rk < 256) (hne : ¬ rk = 14) (o : Option (List UInt8)) : ∀ hE : H, callv fns 10 [.agg [.int .i64 rk, bAV 5 o], .int .i64 14] hE = some (.tup [.agg zC8, .bool false]) := by
  have h := n_SymbolOK rk o hne
  have hc := c_core rk a b o
  have e0 : bAV 5 none = AV.slice .nil 0 1 [] := rfl
  have h1 := c_one false
  refine cvF fun hE => ?_
  refine run10 (Nat.le_of_ble_eq_true rfl) ?_
  simp [hc, h, h1, own0, zC8, e0, aShift, fbV, ex2_0, ex2_1, ex3_0, ex3_1, ex3_2]
  try rfl
theorem x_15 (rk : Int) (a : 0 ≤ rk) (b : rk < 256) (hne : ¬ rk = 15) (o : Option (List UInt8)) : ∀ hE : H, callv fns 10 [.agg [.int .i64 rk, bAV 5 o], .int .i64 15] hE = some (.tup [.agg zC8, .bool false]) := by
  have h := n_CodeWithScopeOK rk o hne
  have hc := c_core rk a b o
  have e0 : bAV 5 none = AV.slice .nil 0 1 [] := rfl
  have h1 := c_one false
  refine cvF fun hE => ?_
  refine run10 (Nat.le_of_ble_eq_true rfl) ?_
  simp [hc, h, h1, own0, zC8, e0, aShift, fbV, ex2_0, ex2_1, ex3_0, ex3_1, ex3_2]
  try rfl
theorem x_16 (rk : Int) (a : 0 ≤ rk) (b : rk < 256) (hne : ¬ rk = 16) (o : Option (List UInt8)) : ∀ hE : H, callv fns 10 [.agg [.int .i64 rk, bAV 5 o], .int .i64 16] hE = some (.tup [.agg zC8, .bool false]) := by
  have h := n_Int32OK rk o hne
  have hc := c_core rk a b o
  have e0 : bAV 5 none = AV.slice .nil 0 1 [] := rfl
  have h1 := c_one false
  refine cvF fun hE => ?_
  refine run10 (Nat.le_of_ble_eq_true rfl) ?_
  simp [hc, h, h1, own0, zC8, e0, aShift, fbV, ex2_0, ex2_1, ex3_0, ex3_1, ex3_2]
  try rfl
theorem x_17 (rk : Int) (a : 0 ≤ rk) (b : rk < 256) (hne : ¬ rk = 17) (o : Option (List UInt8)) : ∀ hE : H, callv fns 10 [.agg [.int .i64 rk, bAV 5 o], .int .i64 17] hE = some (.tup [.agg zC8, .bool false]) := by
  have h := n_TimestampOK rk o hne
  have hc := c_core rk a b o
  have e0 : bAV 5 none = AV.slice .nil 0 1 [] := rfl
  have h1 := c_one false
  refine cvF fun hE => ?_
  refine run10 (Nat.le_of_ble_eq_true rfl) ?_
  simp [hc, h, h1, own0, zC8, e0, aShift, fbV, ex2_0, ex2_1, ex3_0, ex3_1, ex3_2]
  try rfl
theorem x_18 (rk : Int) (a : 0 ≤ rk) (b : rk < 256) (hne : ¬ rk = 18) (o : Option (List UInt8)) : ∀ hE : H, callv fns 10 [.agg [.int .i64 rk, bAV 5 o], .int .i64 18] hE = some (.tup [.agg zC8, .bool false]) := by
  have h := n_Int64OK rk o hne
  have hc := c_core rk a b o
  have e0 : bAV 5 none = AV.slice .nil 0 1 [] := rfl
  have h1 := c_one false
  refine cvF fun hE => ?_
  refine run10 (Nat.le_of_ble_eq_true rfl) ?_
  simp [hc, h, h1, own0, zC8, e0, aShift, fbV, ex2_0, ex2_1, ex3_0, ex3_1, ex3_2]
  try rfl
theorem x_19 (rk : Int) (a : 0 ≤ rk) (b : rk < 256) (hne : ¬ rk = 19) (o : Option (List UInt8)) : ∀ hE : H, callv fns 10 [.agg [.int .i64 rk, bAV 5 o], .int .i64 19] hE = some (.tup [.agg zC8, .bool false]) := by
  have h := n_Decimal128OK rk o hne
  have hc := c_core rk a b o
  have e0 : bAV 5 none = AV.slice .nil 0 1 [] := rfl
  have h1 := c_one false
  refine cvF fun hE => ?_
  refine run10 (Nat.le_of_ble_eq_true rfl) ?_
  simp [hc, h, h1, own0, zC8, e0, aShift, fbV, ex2_0, ex2_1, ex3_0, ex3_1, ex3_2]
  try rfl
theorem x_no {k : Int} (hk : k ≠ 1 ∧ k ≠ 2 ∧ k ≠ 3 ∧ k ≠ 4 ∧ k ≠ 5 ∧ k ≠ 7 ∧ k ≠ 8 ∧ k ≠ 9 ∧ k ≠ 11 ∧ k ≠ 12 ∧ k ≠ 13 ∧ k ≠ 14 ∧ k ≠ 15 ∧ k ≠ 16 ∧ k ≠ 17 ∧ k ≠ 18 ∧ k ≠ 19) (rk : Int) (a : 0 ≤ rk) (b : rk < 256) (o : Option (List UInt8)) : ∀ hE : H, callv fns 10 [.agg [.int .i64 rk, bAV 5 o], .int .i64 k] hE = some (.tup [.agg zC8, .bool false]) := by
  have hc := c_core rk a b o
  obtain ⟨a1, a2, a3, a4, a5, a7, a8, a9, a11, a12, a13, a14, a15, a16, a17, a18, a19⟩ := hk
  refine cvF fun hE => ?_
  refine run10 (Nat.le_of_ble_eq_true rfl) ?_
  simp [hc, zC8, a1, a2, a3, a4, a5, a7, a8, a9, a11, a12, a13, a14, a15, a16, a17, a18, a19]
end Go.Proofs.YticoldgiebmmgaaGreatDoor.Abs
