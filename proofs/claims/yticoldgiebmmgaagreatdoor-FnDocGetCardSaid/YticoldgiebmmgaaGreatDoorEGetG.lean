/- What Get tells of a value of the kind that is asked. -/
import Derived.Test.YticoldgiebmmgaaGreatDoorEGetM
import Derived.Test.YticoldgiebmmgaaGreatDoorEB11
namespace Go.Proofs.YticoldgiebmmgaaGreatDoor.Abs
set_option linter.all false
open Go.Proofs
set_option linter.unusedVariables false
set_option linter.unusedSimpArgs false
set_option maxRecDepth 100000
set_option maxHeartbeats 8000000

theorem c_core (k : Int) (h0 : 0 ≤ k) (h1 : k < 256) (o : Option (List UInt8)) : ∀ hE : H, callω fns 18 [.agg [.int .i64 k, bAV 5 o]] hE = some (.agg [.int .u8 k, bAV 5 o], hE) := by
  intro hE
  have hw : IntKind.u8.wrap k = k := by simp [IntKind.wrap, IntKind.signed, IntKind.bits]; omega
  refine run18 (Nat.le_of_ble_eq_true rfl) ?_
  simp [hw]
theorem c_one (b : Bool) : ∀ hE : H, callω fns 28 [.bool b] hE = some (.int .i64 (if b = true then 1 else 0), hE) := by
  intro hE
  cases b <;> (refine run28 (Nat.le_of_ble_eq_true rfl) ?_; simp)
structure TV where
  t : List UInt8
  m : List UInt8
  n : Int
  bi : Int
  hi : Int
  b : List UInt8
def tv0 : TV := ⟨[], [], 0, 0, 0, []⟩
def tvC (k : Int) (v : TV) (ob : Option (List UInt8)) : List AV := [.int .i64 k, .str v.t, .str v.m, .int .i64 v.n, .int .u64 v.bi, .int .u64 v.hi, bAV 5 ob, .slice .nil 0 1 []]
def zC8 : List AV := [.int .i64 0, .str [], .str [], .int .i64 0, .int .u64 0, .int .u64 0, .slice .nil 0 1 [], .slice .nil 0 1 []]
theorem own0 : ∀ hE : H, callω fns 23 [.slice .nil 0 1 []] hE = some (.slice .nil 0 1 [], hE) := fun hE => c_own none (by simp [bl]) hE
theorem ownS (x : List UInt8) (h : x.length ≤ 5000) : ∀ hE : H, callω fns 23 [bAV 5 (some x)] hE = some ((BS.mk x).av 5, hE) := c_own (some x) (by show x.length < _; omega)
theorem mkO (x : List UInt8) : (BS.mk x).opt = oB x := rfl
theorem g_1 (l : List UInt8) (hl : l.length ≤ 5000) : ∀ hE : H, callω fns 10 [.agg [.int .i64 1, bAV 5 (some l)], .int .i64 1] hE = some (if 8 ≤ l.length then .tup [.agg (tvC 1 ⟨[], [], 0, num64 l, 0, []⟩ none), .bool true] else .tup [.agg zC8, .bool false], hE) := by
  intro hE
  have h := o_DoubleOK l hl
  have hc := c_core 1 (by omega) (by omega) (some l)
  have e0 : bAV 5 none = AV.slice .nil 0 1 [] := rfl
  by_cases g : 8 ≤ l.length
  · simp only [g, ↓reduceIte] at h ⊢
    generalize num64 l = G0 at *
    refine run10 (Nat.le_of_ble_eq_true rfl) ?_
    simp [hc, h, tvC, e0, fbV, e0, ex2_0, ex2_1, ex3_0, ex3_1, ex3_2]
    try rfl
  · simp only [g, ↓reduceIte] at h ⊢
    refine run10 (Nat.le_of_ble_eq_true rfl) ?_
    simp [hc, h, own0, zC8, e0, fbV, e0, ex2_0, ex2_1, ex3_0, ex3_1, ex3_2]
    try rfl
theorem g_2 (l : List UInt8) (hl : l.length ≤ 5000) : ∀ hE : H, callω fns 10 [.agg [.int .i64 2, bAV 5 (some l)], .int .i64 2] hE = some (if strOk l = true then .tup [.agg (tvC 2 ⟨strT l, [], 0, 0, 0, []⟩ none), .bool true] else .tup [.agg zC8, .bool false], hE) := by
  intro hE
  have h := o_StringValueOK l hl
  have hc := c_core 2 (by omega) (by omega) (some l)
  have e0 : bAV 5 none = AV.slice .nil 0 1 [] := rfl
  by_cases g : strOk l = true
  · simp only [g, ↓reduceIte] at h ⊢
    generalize strT l = G0 at *
    refine run10 (Nat.le_of_ble_eq_true rfl) ?_
    simp [hc, h, tvC, e0, e0, ex2_0, ex2_1, ex3_0, ex3_1, ex3_2]
    try rfl
  · simp only [g, ↓reduceIte] at h ⊢
    refine run10 (Nat.le_of_ble_eq_true rfl) ?_
    simp [hc, h, own0, zC8, e0, e0, ex2_0, ex2_1, ex3_0, ex3_1, ex3_2]
    try rfl
theorem g_13 (l : List UInt8) (hl : l.length ≤ 5000) : ∀ hE : H, callω fns 10 [.agg [.int .i64 13, bAV 5 (some l)], .int .i64 13] hE = some (if strOk l = true then .tup [.agg (tvC 13 ⟨strT l, [], 0, 0, 0, []⟩ none), .bool true] else .tup [.agg zC8, .bool false], hE) := by
  intro hE
  have h := o_JavaScriptOK l hl
  have hc := c_core 13 (by omega) (by omega) (some l)
  have e0 : bAV 5 none = AV.slice .nil 0 1 [] := rfl
  by_cases g : strOk l = true
  · simp only [g, ↓reduceIte] at h ⊢
    generalize strT l = G0 at *
    refine run10 (Nat.le_of_ble_eq_true rfl) ?_
    simp [hc, h, tvC, e0, e0, ex2_0, ex2_1, ex3_0, ex3_1, ex3_2]
    try rfl
  · simp only [g, ↓reduceIte] at h ⊢
    refine run10 (Nat.le_of_ble_eq_true rfl) ?_
    simp [hc, h, own0, zC8, e0, e0, ex2_0, ex2_1, ex3_0, ex3_1, ex3_2]
    try rfl
theorem g_14 (l : List UInt8) (hl : l.length ≤ 5000) : ∀ hE : H, callω fns 10 [.agg [.int .i64 14, bAV 5 (some l)], .int .i64 14] hE = some (if strOk l = true then .tup [.agg (tvC 14 ⟨strT l, [], 0, 0, 0, []⟩ none), .bool true] else .tup [.agg zC8, .bool false], hE) := by
  intro hE
  have h := o_SymbolOK l hl
  have hc := c_core 14 (by omega) (by omega) (some l)
  have e0 : bAV 5 none = AV.slice .nil 0 1 [] := rfl
  by_cases g : strOk l = true
  · simp only [g, ↓reduceIte] at h ⊢
    generalize strT l = G0 at *
    refine run10 (Nat.le_of_ble_eq_true rfl) ?_
    simp [hc, h, tvC, e0, e0, ex2_0, ex2_1, ex3_0, ex3_1, ex3_2]
    try rfl
  · simp only [g, ↓reduceIte] at h ⊢
    refine run10 (Nat.le_of_ble_eq_true rfl) ?_
    simp [hc, h, own0, zC8, e0, e0, ex2_0, ex2_1, ex3_0, ex3_1, ex3_2]
    try rfl
theorem g_3 (l : List UInt8) (hl : l.length ≤ 5000) : ∀ hE : H, callω fns 10 [.agg [.int .i64 3, bAV 5 (some l)], .int .i64 3] hE = some (if docB l = true then .tup [.agg (tvC 3 ⟨[], [], 0, 0, 0, l.take (num32 l).toNat⟩ (oB (l.take (num32 l).toNat))), .bool true] else .tup [.agg zC8, .bool false], hE) := by
  intro hE
  have h := o_DocumentOK l hl
  have hc := c_core 3 (by omega) (by omega) (some l)
  have e0 : bAV 5 none = AV.slice .nil 0 1 [] := rfl
  have ho := ownS (l.take (num32 l).toNat) (by simp only [List.length_take, List.length_drop]; omega)
  by_cases g : docB l = true
  · simp only [g, ↓reduceIte] at h ⊢
    generalize l.take (num32 l).toNat = G0 at *
    refine run10 (Nat.le_of_ble_eq_true rfl) ?_
    simp [hc, h, tvC, e0, ho, mkO, ex2_0, ex2_1, ex3_0, ex3_1, ex3_2]
    try rfl
  · simp only [g, ↓reduceIte] at h ⊢
    refine run10 (Nat.le_of_ble_eq_true rfl) ?_
    simp [hc, h, own0, zC8, e0, ex2_0, ex2_1, ex3_0, ex3_1, ex3_2]
    try rfl
theorem g_4 (l : List UInt8) (hl : l.length ≤ 5000) : ∀ hE : H, callω fns 10 [.agg [.int .i64 4, bAV 5 (some l)], .int .i64 4] hE = some (if docB l = true then .tup [.agg (tvC 4 ⟨[], [], 0, 0, 0, l.take (num32 l).toNat⟩ (oB (l.take (num32 l).toNat))), .bool true] else .tup [.agg zC8, .bool false], hE) := by
  intro hE
  have h := o_ArrayOK l hl
  have hc := c_core 4 (by omega) (by omega) (some l)
  have e0 : bAV 5 none = AV.slice .nil 0 1 [] := rfl
  have ho := ownS (l.take (num32 l).toNat) (by simp only [List.length_take, List.length_drop]; omega)
  by_cases g : docB l = true
  · simp only [g, ↓reduceIte] at h ⊢
    generalize l.take (num32 l).toNat = G0 at *
    refine run10 (Nat.le_of_ble_eq_true rfl) ?_
    simp [hc, h, tvC, e0, ho, mkO, ex2_0, ex2_1, ex3_0, ex3_1, ex3_2]
    try rfl
  · simp only [g, ↓reduceIte] at h ⊢
    refine run10 (Nat.le_of_ble_eq_true rfl) ?_
    simp [hc, h, own0, zC8, e0, ex2_0, ex2_1, ex3_0, ex3_1, ex3_2]
    try rfl
theorem g_9 (l : List UInt8) (hl : l.length ≤ 5000) : ∀ hE : H, callω fns 10 [.agg [.int .i64 9, bAV 5 (some l)], .int .i64 9] hE = some (if 8 ≤ l.length then .tup [.agg (tvC 9 ⟨[], [], IntKind.i64.wrap (num64 l), 0, 0, []⟩ none), .bool true] else .tup [.agg zC8, .bool false], hE) := by
  intro hE
  have h := o_DateTimeOK l hl
  have hc := c_core 9 (by omega) (by omega) (some l)
  have e0 : bAV 5 none = AV.slice .nil 0 1 [] := rfl
  by_cases g : 8 ≤ l.length
  · simp only [g, ↓reduceIte] at h ⊢
    generalize IntKind.i64.wrap (num64 l) = G0 at *
    refine run10 (Nat.le_of_ble_eq_true rfl) ?_
    simp [hc, h, tvC, e0, e0, ex2_0, ex2_1, ex3_0, ex3_1, ex3_2]
    try rfl
  · simp only [g, ↓reduceIte] at h ⊢
    refine run10 (Nat.le_of_ble_eq_true rfl) ?_
    simp [hc, h, own0, zC8, e0, e0, ex2_0, ex2_1, ex3_0, ex3_1, ex3_2]
    try rfl
theorem g_18 (l : List UInt8) (hl : l.length ≤ 5000) : ∀ hE : H, callω fns 10 [.agg [.int .i64 18, bAV 5 (some l)], .int .i64 18] hE = some (if 8 ≤ l.length then .tup [.agg (tvC 18 ⟨[], [], IntKind.i64.wrap (num64 l), 0, 0, []⟩ none), .bool true] else .tup [.agg zC8, .bool false], hE) := by
  intro hE
  have h := o_Int64OK l hl
  have hc := c_core 18 (by omega) (by omega) (some l)
  have e0 : bAV 5 none = AV.slice .nil 0 1 [] := rfl
  by_cases g : 8 ≤ l.length
  · simp only [g, ↓reduceIte] at h ⊢
    generalize IntKind.i64.wrap (num64 l) = G0 at *
    refine run10 (Nat.le_of_ble_eq_true rfl) ?_
    simp [hc, h, tvC, e0, e0, ex2_0, ex2_1, ex3_0, ex3_1, ex3_2]
    try rfl
  · simp only [g, ↓reduceIte] at h ⊢
    refine run10 (Nat.le_of_ble_eq_true rfl) ?_
    simp [hc, h, own0, zC8, e0, e0, ex2_0, ex2_1, ex3_0, ex3_1, ex3_2]
    try rfl
theorem g_16 (l : List UInt8) (hl : l.length ≤ 5000) : ∀ hE : H, callω fns 10 [.agg [.int .i64 16, bAV 5 (some l)], .int .i64 16] hE = some (if 4 ≤ l.length then .tup [.agg (tvC 16 ⟨[], [], num32 l, 0, 0, []⟩ none), .bool true] else .tup [.agg zC8, .bool false], hE) := by
  intro hE
  have h := o_Int32OK l hl
  have hc := c_core 16 (by omega) (by omega) (some l)
  have e0 : bAV 5 none = AV.slice .nil 0 1 [] := rfl
  have hr := num32_range l
  have w : IntKind.i64.wrap (num32 l) = num32 l := wrap_i64 (by omega) (by omega)
  by_cases g : 4 ≤ l.length
  · simp only [g, ↓reduceIte] at h ⊢
    generalize num32 l = G0 at *
    refine run10 (Nat.le_of_ble_eq_true rfl) ?_
    simp [hc, h, tvC, e0, e0, w, ex2_0, ex2_1, ex3_0, ex3_1, ex3_2]
    try rfl
  · simp only [g, ↓reduceIte] at h ⊢
    refine run10 (Nat.le_of_ble_eq_true rfl) ?_
    simp [hc, h, own0, zC8, e0, e0, w, ex2_0, ex2_1, ex3_0, ex3_1, ex3_2]
    try rfl
theorem g_19 (l : List UInt8) (hl : l.length ≤ 5000) : ∀ hE : H, callω fns 10 [.agg [.int .i64 19, bAV 5 (some l)], .int .i64 19] hE = some (if 16 ≤ l.length then .tup [.agg (tvC 19 ⟨[], [], 0, num64 l, num64 (l.drop 8), []⟩ none), .bool true] else .tup [.agg zC8, .bool false], hE) := by
  intro hE
  have h := o_Decimal128OK l hl
  have hc := c_core 19 (by omega) (by omega) (some l)
  have e0 : bAV 5 none = AV.slice .nil 0 1 [] := rfl
  by_cases g : 16 ≤ l.length
  · simp only [g, ↓reduceIte] at h ⊢
    generalize num64 (l.drop 8) = G0 at *
    generalize num64 l = G1 at *
    refine run10 (Nat.le_of_ble_eq_true rfl) ?_
    simp [hc, h, tvC, e0, e0, ex2_0, ex2_1, ex3_0, ex3_1, ex3_2]
    try rfl
  · simp only [g, ↓reduceIte] at h ⊢
    refine run10 (Nat.le_of_ble_eq_true rfl) ?_
    simp [hc, h, own0, zC8, e0, e0, ex2_0, ex2_1, ex3_0, ex3_1, ex3_2]
    try rfl
theorem g_5 (l : List UInt8) (hl : l.length ≤ 5000) (hag : binOk l = true → (l.drop 4).head? = some 2 → 4 ≤ num32 l ∧ num32 (l.drop 5) = num32 l - 4) : ∀ hE : H, callω fns 10 [.agg [.int .i64 5, bAV 5 (some l)], .int .i64 5] hE = some (if binOk l = true then .tup [.agg (tvC 5 ⟨[], [], ((l.drop 4).headD 0).toNat, 0, 0, (if (l.drop 4).head? = some 2 then (l.drop 9).take ((num32 l).toNat - 4) else (l.drop 5).take (num32 l).toNat)⟩ (oB (if (l.drop 4).head? = some 2 then (l.drop 9).take ((num32 l).toNat - 4) else (l.drop 5).take (num32 l).toNat))), .bool true] else .tup [.agg zC8, .bool false], hE) := by
  intro hE
  have h := o_BinaryOK l hl hag
  have hc := c_core 5 (by omega) (by omega) (some l)
  have e0 : bAV 5 none = AV.slice .nil 0 1 [] := rfl
  have hBl : (if (l.drop 4).head? = some 2 then (l.drop 9).take ((num32 l).toNat - 4) else (l.drop 5).take (num32 l).toNat).length ≤ 5000 := by split <;> (simp only [List.length_take, List.length_drop]; omega)
  have ho := ownS (if (l.drop 4).head? = some 2 then (l.drop 9).take ((num32 l).toNat - 4) else (l.drop 5).take (num32 l).toNat) hBl
  have hx := ((l.drop 4).headD 0).toNat_lt
  have w : IntKind.i64.wrap (((l.drop 4).headD 0).toNat : Int) = ((l.drop 4).headD 0).toNat := wrap_i64 (by omega) (by omega)
  by_cases g : binOk l = true
  · simp only [g, ↓reduceIte] at h ⊢
    generalize (if (l.drop 4).head? = some 2 then (l.drop 9).take ((num32 l).toNat - 4) else (l.drop 5).take (num32 l).toNat) = G0 at *
    generalize ((l.drop 4).headD 0).toNat = G1 at *
    refine run10 (Nat.le_of_ble_eq_true rfl) ?_
    simp [hc, h, tvC, e0, ho, mkO, w, ex2_0, ex2_1, ex3_0, ex3_1, ex3_2]
    try rfl
  · simp only [g, ↓reduceIte] at h ⊢
    refine run10 (Nat.le_of_ble_eq_true rfl) ?_
    simp [hc, h, own0, zC8, e0, ho, mkO, w, ex2_0, ex2_1, ex3_0, ex3_1, ex3_2]
    try rfl
end Go.Proofs.YticoldgiebmmgaaGreatDoor.Abs
