/- A value asked as one of a kind: each method, of its kind and of another one. -/
import Derived.Test.YticoldgiebmmgaaGreatDoorEGetT
namespace Go.Proofs.YticoldgiebmmgaaGreatDoor.Abs
set_option linter.all false
open Go.Proofs
set_option linter.unusedVariables false
set_option linter.unusedSimpArgs false
set_option maxRecDepth 100000
set_option maxHeartbeats 8000000

theorem o_DoubleOK (l : List UInt8) (hl : l.length ≤ 5000) : ∀ hE : H, callω fns 19 [.agg [.int .u8 1, bAV 5 (some l)]] hE = some (if 8 ≤ l.length then .tup [.flt .f64 (num64 l), .bool true] else .tup [.flt .f64 0, .bool false], hE) := by
  intro hE
  have h := c_ReadDouble l
  by_cases g : 8 ≤ l.length
  · simp only [g, ↓reduceIte] at h ⊢
    refine run19 (Nat.le_of_ble_eq_true rfl) ?_
    simp [h, ex3_0, ex3_1, ex3_2, ex4_0, ex4_1, ex4_2, ex4_3]
  · simp only [g, ↓reduceIte] at h ⊢
    refine run19 (Nat.le_of_ble_eq_true rfl) ?_
    simp [h, ex3_0, ex3_1, ex3_2, ex4_0, ex4_1, ex4_2, ex4_3]
theorem o_StringValueOK (l : List UInt8) (hl : l.length ≤ 5000) : ∀ hE : H, callω fns 21 [.agg [.int .u8 2, bAV 5 (some l)]] hE = some (if strOk l = true then .tup [.str (strT l), .bool true] else .tup [.str [], .bool false], hE) := by
  intro hE
  have h := c_ReadStr l hl
  by_cases g : strOk l = true
  · simp only [g, ↓reduceIte] at h ⊢
    refine run21 (Nat.le_of_ble_eq_true rfl) ?_
    simp [h, ex3_0, ex3_1, ex3_2, ex4_0, ex4_1, ex4_2, ex4_3]
  · simp only [g, ↓reduceIte] at h ⊢
    refine run21 (Nat.le_of_ble_eq_true rfl) ?_
    simp [h, ex3_0, ex3_1, ex3_2, ex4_0, ex4_1, ex4_2, ex4_3]
theorem o_DocumentOK (l : List UInt8) (hl : l.length ≤ 5000) : ∀ hE : H, callω fns 22 [.agg [.int .u8 3, bAV 5 (some l)]] hE = some (if docB l = true then .tup [bAV 5 (some (l.take (num32 l).toNat)), .bool true] else .tup [.slice .nil 0 1 [], .bool false], hE) := by
  intro hE
  have h := c_RDoc l hl
  by_cases g : docB l = true
  · simp only [g, ↓reduceIte] at h ⊢
    refine run22 (Nat.le_of_ble_eq_true rfl) ?_
    simp [h, ex3_0, ex3_1, ex3_2, ex4_0, ex4_1, ex4_2, ex4_3]
  · simp only [g, ↓reduceIte] at h ⊢
    refine run22 (Nat.le_of_ble_eq_true rfl) ?_
    simp [h, ex3_0, ex3_1, ex3_2, ex4_0, ex4_1, ex4_2, ex4_3]
theorem o_ArrayOK (l : List UInt8) (hl : l.length ≤ 5000) : ∀ hE : H, callω fns 24 [.agg [.int .u8 4, bAV 5 (some l)]] hE = some (if docB l = true then .tup [bAV 5 (some (l.take (num32 l).toNat)), .bool true] else .tup [.slice .nil 0 1 [], .bool false], hE) := by
  intro hE
  have h := c_RArr l hl
  by_cases g : docB l = true
  · simp only [g, ↓reduceIte] at h ⊢
    refine run24 (Nat.le_of_ble_eq_true rfl) ?_
    simp [h, ex3_0, ex3_1, ex3_2, ex4_0, ex4_1, ex4_2, ex4_3]
  · simp only [g, ↓reduceIte] at h ⊢
    refine run24 (Nat.le_of_ble_eq_true rfl) ?_
    simp [h, ex3_0, ex3_1, ex3_2, ex4_0, ex4_1, ex4_2, ex4_3]
theorem o_DateTimeOK (l : List UInt8) (hl : l.length ≤ 5000) : ∀ hE : H, callω fns 29 [.agg [.int .u8 9, bAV 5 (some l)]] hE = some (if 8 ≤ l.length then .tup [.int .i64 (IntKind.i64.wrap (num64 l)), .bool true] else .tup [.int .i64 0, .bool false], hE) := by
  intro hE
  have h := c_ReadDateTime l
  by_cases g : 8 ≤ l.length
  · simp only [g, ↓reduceIte] at h ⊢
    refine run29 (Nat.le_of_ble_eq_true rfl) ?_
    simp [h, ex3_0, ex3_1, ex3_2, ex4_0, ex4_1, ex4_2, ex4_3]
  · simp only [g, ↓reduceIte] at h ⊢
    refine run29 (Nat.le_of_ble_eq_true rfl) ?_
    simp [h, ex3_0, ex3_1, ex3_2, ex4_0, ex4_1, ex4_2, ex4_3]
theorem o_JavaScriptOK (l : List UInt8) (hl : l.length ≤ 5000) : ∀ hE : H, callω fns 32 [.agg [.int .u8 13, bAV 5 (some l)]] hE = some (if strOk l = true then .tup [.str (strT l), .bool true] else .tup [.str [], .bool false], hE) := by
  intro hE
  have h := c_ReadJs l hl
  by_cases g : strOk l = true
  · simp only [g, ↓reduceIte] at h ⊢
    refine run32 (Nat.le_of_ble_eq_true rfl) ?_
    simp [h, ex3_0, ex3_1, ex3_2, ex4_0, ex4_1, ex4_2, ex4_3]
  · simp only [g, ↓reduceIte] at h ⊢
    refine run32 (Nat.le_of_ble_eq_true rfl) ?_
    simp [h, ex3_0, ex3_1, ex3_2, ex4_0, ex4_1, ex4_2, ex4_3]
theorem o_SymbolOK (l : List UInt8) (hl : l.length ≤ 5000) : ∀ hE : H, callω fns 33 [.agg [.int .u8 14, bAV 5 (some l)]] hE = some (if strOk l = true then .tup [.str (strT l), .bool true] else .tup [.str [], .bool false], hE) := by
  intro hE
  have h := c_ReadSym l hl
  by_cases g : strOk l = true
  · simp only [g, ↓reduceIte] at h ⊢
    refine run33 (Nat.le_of_ble_eq_true rfl) ?_
    simp [h, ex3_0, ex3_1, ex3_2, ex4_0, ex4_1, ex4_2, ex4_3]
  · simp only [g, ↓reduceIte] at h ⊢
    refine run33 (Nat.le_of_ble_eq_true rfl) ?_
    simp [h, ex3_0, ex3_1, ex3_2, ex4_0, ex4_1, ex4_2, ex4_3]
theorem o_Int32OK (l : List UInt8) (hl : l.length ≤ 5000) : ∀ hE : H, callω fns 35 [.agg [.int .u8 16, bAV 5 (some l)]] hE = some (if 4 ≤ l.length then .tup [.int .i32 (num32 l), .bool true] else .tup [.int .i32 0, .bool false], hE) := by
  intro hE
  have h := c_ReadInt32' l
  by_cases g : 4 ≤ l.length
  · simp only [g, ↓reduceIte] at h ⊢
    refine run35 (Nat.le_of_ble_eq_true rfl) ?_
    simp [h, ex3_0, ex3_1, ex3_2, ex4_0, ex4_1, ex4_2, ex4_3]
  · simp only [g, ↓reduceIte] at h ⊢
    refine run35 (Nat.le_of_ble_eq_true rfl) ?_
    simp [h, ex3_0, ex3_1, ex3_2, ex4_0, ex4_1, ex4_2, ex4_3]
theorem o_TimestampOK (l : List UInt8) (hl : l.length ≤ 5000) : ∀ hE : H, callω fns 36 [.agg [.int .u8 17, bAV 5 (some l)]] hE = some (if 8 ≤ l.length then .tup [.int .u32 (numU (l.drop 4)), .int .u32 (numU l), .bool true] else .tup [.int .u32 0, .int .u32 0, .bool false], hE) := by
  intro hE
  have h := c_ReadTime l
  by_cases g : 8 ≤ l.length
  · simp only [g, ↓reduceIte] at h ⊢
    refine run36 (Nat.le_of_ble_eq_true rfl) ?_
    simp [h, ex3_0, ex3_1, ex3_2, ex4_0, ex4_1, ex4_2, ex4_3]
  · simp only [g, ↓reduceIte] at h ⊢
    refine run36 (Nat.le_of_ble_eq_true rfl) ?_
    simp [h, ex3_0, ex3_1, ex3_2, ex4_0, ex4_1, ex4_2, ex4_3]
theorem o_Int64OK (l : List UInt8) (hl : l.length ≤ 5000) : ∀ hE : H, callω fns 37 [.agg [.int .u8 18, bAV 5 (some l)]] hE = some (if 8 ≤ l.length then .tup [.int .i64 (IntKind.i64.wrap (num64 l)), .bool true] else .tup [.int .i64 0, .bool false], hE) := by
  intro hE
  have h := c_ReadInt64 l
  by_cases g : 8 ≤ l.length
  · simp only [g, ↓reduceIte] at h ⊢
    refine run37 (Nat.le_of_ble_eq_true rfl) ?_
    simp [h, ex3_0, ex3_1, ex3_2, ex4_0, ex4_1, ex4_2, ex4_3]
  · simp only [g, ↓reduceIte] at h ⊢
    refine run37 (Nat.le_of_ble_eq_true rfl) ?_
    simp [h, ex3_0, ex3_1, ex3_2, ex4_0, ex4_1, ex4_2, ex4_3]
theorem o_Decimal128OK (l : List UInt8) (hl : l.length ≤ 5000) : ∀ hE : H, callω fns 38 [.agg [.int .u8 19, bAV 5 (some l)]] hE = some (if 16 ≤ l.length then .tup [.int .u64 (num64 (l.drop 8)), .int .u64 (num64 l), .bool true] else .tup [.int .u64 0, .int .u64 0, .bool false], hE) := by
  intro hE
  have h := c_ReadDec l
  by_cases g : 16 ≤ l.length
  · simp only [g, ↓reduceIte] at h ⊢
    refine run38 (Nat.le_of_ble_eq_true rfl) ?_
    simp [h, ex3_0, ex3_1, ex3_2, ex4_0, ex4_1, ex4_2, ex4_3]
  · simp only [g, ↓reduceIte] at h ⊢
    refine run38 (Nat.le_of_ble_eq_true rfl) ?_
    simp [h, ex3_0, ex3_1, ex3_2, ex4_0, ex4_1, ex4_2, ex4_3]
theorem n_DoubleOK (k : Int) (o : Option (List UInt8)) (h : ¬ k = 1) : ∀ hE : H, callω fns 19 [.agg [.int .u8 k, bAV 5 o]] hE = some (.tup [.flt .f64 0, .bool false], hE) := by
  intro hE
  refine run19 (Nat.le_of_ble_eq_true rfl) ?_
  simp [h]
theorem n_StringValueOK (k : Int) (o : Option (List UInt8)) (h : ¬ k = 2) : ∀ hE : H, callω fns 21 [.agg [.int .u8 k, bAV 5 o]] hE = some (.tup [.str [], .bool false], hE) := by
  intro hE
  refine run21 (Nat.le_of_ble_eq_true rfl) ?_
  simp [h]
theorem n_DocumentOK (k : Int) (o : Option (List UInt8)) (h : ¬ k = 3) : ∀ hE : H, callω fns 22 [.agg [.int .u8 k, bAV 5 o]] hE = some (.tup [.slice .nil 0 1 [], .bool false], hE) := by
  intro hE
  refine run22 (Nat.le_of_ble_eq_true rfl) ?_
  simp [h]
theorem n_ArrayOK (k : Int) (o : Option (List UInt8)) (h : ¬ k = 4) : ∀ hE : H, callω fns 24 [.agg [.int .u8 k, bAV 5 o]] hE = some (.tup [.slice .nil 0 1 [], .bool false], hE) := by
  intro hE
  refine run24 (Nat.le_of_ble_eq_true rfl) ?_
  simp [h]
theorem n_BinaryOK (k : Int) (o : Option (List UInt8)) (h : ¬ k = 5) : ∀ hE : H, callω fns 25 [.agg [.int .u8 k, bAV 5 o]] hE = some (.tup [.int .u8 0, .slice .nil 0 1 [], .bool false], hE) := by
  intro hE
  refine run25 (Nat.le_of_ble_eq_true rfl) ?_
  simp [h]
theorem n_ObjectIDOK (k : Int) (o : Option (List UInt8)) (h : ¬ k = 7) : ∀ hE : H, callω fns 26 [.agg [.int .u8 k, bAV 5 o]] hE = some (.tup [.agg [.int .u8 0, .int .u8 0, .int .u8 0, .int .u8 0, .int .u8 0, .int .u8 0, .int .u8 0, .int .u8 0, .int .u8 0, .int .u8 0, .int .u8 0, .int .u8 0], .bool false], hE) := by
  intro hE
  refine run26 (Nat.le_of_ble_eq_true rfl) ?_
  simp [h]
theorem n_BooleanOK (k : Int) (o : Option (List UInt8)) (h : ¬ k = 8) : ∀ hE : H, callω fns 27 [.agg [.int .u8 k, bAV 5 o]] hE = some (.tup [.bool false, .bool false], hE) := by
  intro hE
  refine run27 (Nat.le_of_ble_eq_true rfl) ?_
  simp [h]
theorem n_DateTimeOK (k : Int) (o : Option (List UInt8)) (h : ¬ k = 9) : ∀ hE : H, callω fns 29 [.agg [.int .u8 k, bAV 5 o]] hE = some (.tup [.int .i64 0, .bool false], hE) := by
  intro hE
  refine run29 (Nat.le_of_ble_eq_true rfl) ?_
  simp [h]
theorem n_RegexOK (k : Int) (o : Option (List UInt8)) (h : ¬ k = 11) : ∀ hE : H, callω fns 30 [.agg [.int .u8 k, bAV 5 o]] hE = some (.tup [.str [], .str [], .bool false], hE) := by
  intro hE
  refine run30 (Nat.le_of_ble_eq_true rfl) ?_
  simp [h]
theorem n_DBPointerOK (k : Int) (o : Option (List UInt8)) (h : ¬ k = 12) : ∀ hE : H, callω fns 31 [.agg [.int .u8 k, bAV 5 o]] hE = some (.tup [.str [], .agg [.int .u8 0, .int .u8 0, .int .u8 0, .int .u8 0, .int .u8 0, .int .u8 0, .int .u8 0, .int .u8 0, .int .u8 0, .int .u8 0, .int .u8 0, .int .u8 0], .bool false], hE) := by
  intro hE
  refine run31 (Nat.le_of_ble_eq_true rfl) ?_
  simp [h]
theorem n_JavaScriptOK (k : Int) (o : Option (List UInt8)) (h : ¬ k = 13) : ∀ hE : H, callω fns 32 [.agg [.int .u8 k, bAV 5 o]] hE = some (.tup [.str [], .bool false], hE) := by
  intro hE
  refine run32 (Nat.le_of_ble_eq_true rfl) ?_
  simp [h]
theorem n_SymbolOK (k : Int) (o : Option (List UInt8)) (h : ¬ k = 14) : ∀ hE : H, callω fns 33 [.agg [.int .u8 k, bAV 5 o]] hE = some (.tup [.str [], .bool false], hE) := by
  intro hE
  refine run33 (Nat.le_of_ble_eq_true rfl) ?_
  simp [h]
theorem n_CodeWithScopeOK (k : Int) (o : Option (List UInt8)) (h : ¬ k = 15) : ∀ hE : H, callω fns 34 [.agg [.int .u8 k, bAV 5 o]] hE = some (.tup [.str [], .slice .nil 0 1 [], .bool false], hE) := by
  intro hE
  refine run34 (Nat.le_of_ble_eq_true rfl) ?_
  simp [h]
theorem n_Int32OK (k : Int) (o : Option (List UInt8)) (h : ¬ k = 16) : ∀ hE : H, callω fns 35 [.agg [.int .u8 k, bAV 5 o]] hE = some (.tup [.int .i32 0, .bool false], hE) := by
  intro hE
  refine run35 (Nat.le_of_ble_eq_true rfl) ?_
  simp [h]
theorem n_TimestampOK (k : Int) (o : Option (List UInt8)) (h : ¬ k = 17) : ∀ hE : H, callω fns 36 [.agg [.int .u8 k, bAV 5 o]] hE = some (.tup [.int .u32 0, .int .u32 0, .bool false], hE) := by
  intro hE
  refine run36 (Nat.le_of_ble_eq_true rfl) ?_
  simp [h]
theorem n_Int64OK (k : Int) (o : Option (List UInt8)) (h : ¬ k = 18) : ∀ hE : H, callω fns 37 [.agg [.int .u8 k, bAV 5 o]] hE = some (.tup [.int .i64 0, .bool false], hE) := by
  intro hE
  refine run37 (Nat.le_of_ble_eq_true rfl) ?_
  simp [h]
theorem n_Decimal128OK (k : Int) (o : Option (List UInt8)) (h : ¬ k = 19) : ∀ hE : H, callω fns 38 [.agg [.int .u8 k, bAV 5 o]] hE = some (.tup [.int .u64 0, .int .u64 0, .bool false], hE) := by
  intro hE
  refine run38 (Nat.le_of_ble_eq_true rfl) ?_
  simp [h]
end Go.Proofs.YticoldgiebmmgaaGreatDoor.Abs
