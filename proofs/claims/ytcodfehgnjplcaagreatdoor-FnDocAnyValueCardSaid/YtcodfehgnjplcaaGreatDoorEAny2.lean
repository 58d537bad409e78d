/- A value, and an element, read at the beginning of any bytes, through the thin layer. -/
import Derived.Test.YtcodfehgnjplcaaGreatDoorEAw2
import Derived.Test.YtcodfehgnjplcaaGreatDoorEAny
namespace Go.Proofs.YtcodfehgnjplcaaGreatDoor.Abs
set_option linter.all false
open Go.Proofs
set_option linter.unusedVariables false
set_option linter.unusedSimpArgs false
set_option maxRecDepth 100000
set_option maxHeartbeats 8000000

theorem vData_le (k : Int) (o : Option (List UInt8)) : (bl (vData k o)).length ≤ (bl o).length := by
  unfold vData
  cases vGet k (bl o) with
  | none => simp [bl]
  | some n => cases o <;> simp [bl]; omega
theorem vRest_le (k : Int) (o : Option (List UInt8)) : (bl (vRest k o)).length ≤ (bl o).length := by
  unfold vRest
  cases vGet k (bl o) with
  | none => simp
  | some n => cases o <;> simp [bl]
theorem c_impReadValue (k : Int) (h0 : 0 ≤ k) (h1 : k < 256) (o : Option (List UInt8)) (hl : (bl o).length ≤ 5000) : ∀ hE : H, callω fns 17 [.int .i64 k, bAV 5 o] hE =
    some (if (vGet k (bl o)).isSome then .tup [.agg [.int .i64 k, bAV 5 (oB (bl (vData k o)))], (BS.mk (bl (vRest k o))).av 5, .bool true] else .tup [.agg [.int .i64 0, bAV 5 none], (BS.mk (bl o)).av 5, .bool false], hE) := by
  intro hE
  have h := c_ReadVal k o (by omega)
  have hw : IntKind.u8.wrap k = k := by simp [IntKind.wrap, IntKind.signed, IntKind.bits]; omega
  have d1 := vData_le k o
  have d2 := vRest_le k o
  cases hv : (vGet k (bl o)).isSome with
  | true =>
    rw [hv] at h
    simp only [if_true] at h ⊢
    have hr := c_raw k h0 h1 (vData k o) (by omega)
    have ho := c_own (vRest k o) (by omega)
    generalize vData k o = D at *
    generalize vRest k o = R at *
    refine run17 (Nat.le_of_ble_eq_true rfl) ?_
    simp [hw, h, hr, ho, ex3_0, ex3_1, ex3_2]
  | false =>
    rw [hv] at h
    simp only [Bool.false_eq_true, if_false] at h ⊢
    have hr := c_raw 0 (by omega) (by omega) none (by simp [bl])
    have ho := c_own o (by omega)
    have e5 : oB (bl none) = none := rfl
    rw [e5] at hr
    refine run17 (Nat.le_of_ble_eq_true rfl) ?_
    simp [hw, h, hr, ho, ex3_0, ex3_1, ex3_2]
theorem c_impReadElement (l : List UInt8) (hl : l.length ≤ 5000) : ∀ hE : H, callω fns 19 [bAV 5 (some l)] hE =
    some (match eGet l with | some m => .tup [(BS.mk (l.take m)).av 5, (BS.mk (l.drop m)).av 5, .bool true] | none => .tup [(BS.mk []).av 5, (BS.mk l).av 5, .bool false], hE) := by
  intro hE
  have h := c_ReadElement l (by omega)
  unfold eRes at h
  cases hg : eGet l with
  | none =>
    rw [hg] at h
    simp only at h ⊢
    have o1 := c_own none (by simp [bl])
    have o2 := c_own (some l) (by simp only [bl]; omega)
    simp only [bl] at o1 o2
    refine run19 (Nat.le_of_ble_eq_true rfl) ?_
    simp [h, o1, o2, ex3_0, ex3_1, ex3_2]
  | some m =>
    rw [hg] at h
    simp only at h ⊢
    have o1 := c_own (some (l.take m)) (by simp only [bl, List.length_take]; omega)
    have o2 := c_own (some (l.drop m)) (by simp only [bl, List.length_drop]; omega)
    simp only [bl] at o1 o2
    refine run19 (Nat.le_of_ble_eq_true rfl) ?_
    simp [h, o1, o2, ex3_0, ex3_1, ex3_2]
end Go.Proofs.YtcodfehgnjplcaaGreatDoor.Abs
