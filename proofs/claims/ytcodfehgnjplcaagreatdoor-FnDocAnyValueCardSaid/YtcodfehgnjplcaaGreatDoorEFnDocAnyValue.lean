/- What the law's function FnDocAnyValue computes. -/
import Derived.Test.YtcodfehgnjplcaaGreatDoorEAny2
import Derived.Test.YtcodfehgnjplcaaGreatDoorECopy2
namespace Go.Proofs.YtcodfehgnjplcaaGreatDoor.Abs
set_option linter.all false
open Go.Proofs
set_option linter.unusedVariables false
set_option linter.unusedSimpArgs false
set_option maxRecDepth 100000
set_option maxHeartbeats 8000000

theorem sl_toO {hp : H} {e : Nat} {o : Option (List UInt8)} {m : Nat} (h : m ≤ (bl o).length) : slSl hp 1 (bAV e o) (some 0) (some (m : Int)) = some (bAV e (o.map (·.take m))) := by
  cases o with
  | none => simp only [bl, List.length_nil, Nat.le_zero] at h; subst h; simp [slSl, bAV]
  | some l => exact sl_to h
theorem sl_fromO {hp : H} {e : Nat} {o : Option (List UInt8)} {m : Nat} (h : m ≤ (bl o).length) : slSl hp 1 (bAV e o) (some (m : Int)) (some ((bl o).length : Int)) = some (bAV e (o.map (·.drop m))) := by
  cases o with
  | none => simp only [bl, List.length_nil, Nat.le_zero] at h; subst h; simp [slSl, bAV, bl]
  | some l => exact sl_from h
theorem bl_take (o : Option (List UInt8)) (m : Nat) : bl (o.map (·.take m)) = (bl o).take m := by cases o <;> simp [bl]
theorem bl_drop (o : Option (List UInt8)) (m : Nat) : bl (o.map (·.drop m)) = (bl o).drop m := by cases o <;> simp [bl]
theorem c_SameRaw2 (k k' : Int) (o o' : Option (List UInt8)) : ∀ hE : H, callω fns 20 [.agg [.int .i64 k, bAV 5 o], .int .i64 k', bAV 5 o'] hE = some (.bool (decide (k = k') && bl o == bl o'), hE) := by
  intro hE
  refine run20 (Nat.le_of_ble_eq_true rfl) ?_
  by_cases h : k = k'
  · simp [h]
  · simp [h]
theorem c_docModest (o : Option (List UInt8)) : ∀ hE : H, callω fns 15 [bAV 5 o] hE = some (.bool (decide ((bl o).length ≤ 5000)), hE) := by
  intro hE
  refine run15 (Nat.le_of_ble_eq_true rfl) ?_
  simp; omega
theorem c_core (k : Int) (h0 : 0 ≤ k) (h1 : k < 256) (o : Option (List UInt8)) : ∀ hE : H, callω fns 66 [.agg [.int .i64 k, bAV 5 o]] hE = some (.agg [.int .u8 k, bAV 5 o], hE) := by
  intro hE
  have hw : IntKind.u8.wrap k = k := by simp [IntKind.wrap, IntKind.signed, IntKind.bits]; omega
  refine run66 (Nat.le_of_ble_eq_true rfl) ?_
  simp [hw]
theorem c_impValidateValue (k : Int) (h0 : 0 ≤ k) (h1 : k < 256) (o : Option (List UInt8)) (hl : (bl o).length < 2147483648) : ∀ hE : H, callω fns 21 [.agg [.int .i64 k, bAV 5 o]] hE = some (.int .i64 (if (vGet k (bl o)).isSome then 0 else 1), hE) := by
  intro hE
  have hc := c_core k h0 h1 o
  have hv := c_ValValidate k o hl
  unfold xVal at hv
  have hcode1 := c_code_nil
  have hcode2 := c_code_few o o
  generalize (vGet k (bl o)).isSome = b at *
  refine run21 (Nat.le_of_ble_eq_true rfl) ?_
  cases b
  · simp only [Bool.false_eq_true, if_false] at hv
    simp [hc, hv, hcode2]
  · simp only [if_true] at hv
    simp [hc, hv, hcode1]
theorem vGet_le {k : Int} {l : List UInt8} {n : Nat} (h : vGet k l = some n) : n ≤ l.length := by
  unfold vGet at h
  cases hv : vLen k l with
  | none => rw [hv] at h; cases h
  | some x =>
    rw [hv] at h
    simp only [Option.bind_some] at h
    split at h
    · injection h with h; omega
    · cases h
theorem law_FnDocAnyValue (k : Int) (h0 : 0 ≤ k) (h1 : k < 256) (o : Option (List UInt8)) (hl : (bl o).length ≤ reachBytes) (h : H) {s : Nat → Nat × Nat} (hS : Sens h.Γ s) :
    CW fns 4 [.int .u8 k, bAV 5 o] h fun q => q.1 = .bool true := by
  refine (runs4 (Nat.le_of_ble_eq_true rfl) ?_)
  by_cases g1 : 2147483647 < (bl o).length
  · have g1' : (2147483647 : Int) < (bl o).length := by omega
    simp [g1']
  have g1' : ¬ (2147483647 : Int) < (bl o).length := by omega
  have hM := c_docModest o
  by_cases g2 : (bl o).length ≤ 5000
  case neg =>
    have g2' : (decide ((bl o).length ≤ 5000)) = false := by simpa using g2
    rw [g2'] at hM
    simp [g1', hM]
  have g2' : (decide ((bl o).length ≤ 5000)) = true := by simpa using g2
  rw [g2'] at hM
  have hw : IntKind.i64.wrap k = k := wrap_i64 (by omega) (by omega)
  obtain ⟨m, hm, hsp⟩ := c_DocSpan k h0 h1 o g2
  obtain ⟨m', hm', hfi⟩ := c_DocFirst o g2
  have hcp := c_docCopy o (by omega)
  have hol : (BS.own true (bl o)).opt = some (bl o) := rfl
  have hrv := c_impReadValue k h0 h1 (some (bl o)) g2
  have hre := c_impReadElement (bl o) g2
  have hvv := c_impValidateValue k h0 h1 (some (bl o)) (by show (bl o).length < _; omega)
  have hA := c_docAwake h.mask hS
  have hblo : bl (some (bl o)) = bl o := rfl
  have w0 : ((0 : Nat) : Int) = 0 := rfl
  obtain ⟨X, hX, z1⟩ : ∃ X, bl X = [] ∧ ∀ hp : H, slSl hp 1 (bAV 5 o) (some 0) (some 0) = some (bAV 5 X) := ⟨o.map (·.take 0), by rw [bl_take]; simp, fun hp => sl_toO (m := 0) (by omega)⟩
  obtain ⟨Y, hY, z2⟩ : ∃ Y, bl Y = bl o ∧ ∀ hp : H, slSl hp 1 (bAV 5 o) (some 0) (some ((bl o).length : Int)) = some (bAV 5 Y) := ⟨o.map (·.drop 0), by rw [bl_drop]; simp, fun hp => sl_fromO (m := 0) (by omega)⟩
  rw [hblo] at hrv hvv
  unfold vData vRest at hrv
  rw [hblo] at hrv
  cases hv : vGet k (bl o) with
  | none =>
    rw [hv] at hsp hrv hvv
    simp only [Option.isSome_none, Bool.false_eq_true, if_false] at hsp hrv hvv
    cases he : eGet (bl o) with
    | none =>
      rw [he] at hfi hre
      simp only [Option.isSome_none] at hfi hre
      simp [g1', hM, hw, hsp, hfi, hcp, hol, hrv, hre, hvv, hA, z1, z2, hX, hY, bl_take, bl_drop, ex2_0, ex2_1, ex3_0, ex3_1, ex3_2]
    | some j =>
      rw [he] at hfi hre
      simp only [Option.isSome_some] at hfi hre
      have hmj := hm' j he
      subst hmj
      have hj := (eGet_le he).2
      have z3 : ∀ hp : H, slSl hp 1 (bAV 5 o) (some 0) (some (j : Int)) = some (bAV 5 (o.map (·.take j))) := fun hp => sl_toO hj
      have z4 : ∀ hp : H, slSl hp 1 (bAV 5 o) (some (j : Int)) (some ((bl o).length : Int)) = some (bAV 5 (o.map (·.drop j))) := fun hp => sl_fromO hj
      simp [g1', hM, hw, hsp, hfi, hcp, hol, hrv, hre, hvv, hA, z1, z2, hX, hY, z3, z4, bl_take, bl_drop, ex2_0, ex2_1, ex3_0, ex3_1, ex3_2]
  | some n =>
    rw [hv] at hsp hrv hvv
    have hbs : ∀ x : List UInt8, bl (some x) = x := fun _ => rfl
    simp only [Option.isSome_some, if_true, Option.map_some, hbs] at hsp hrv hvv
    have hmn := hm n hv
    subst hmn
    have hn := vGet_le hv
    have y3 : ∀ hp : H, slSl hp 1 (bAV 5 o) (some 0) (some (n : Int)) = some (bAV 5 (o.map (·.take n))) := fun hp => sl_toO hn
    have y4 : ∀ hp : H, slSl hp 1 (bAV 5 o) (some (n : Int)) (some ((bl o).length : Int)) = some (bAV 5 (o.map (·.drop n))) := fun hp => sl_fromO hn
    have hsr := c_SameRaw2 k k (oB ((bl o).take n)) (o.map (·.take n))
    rw [bl_oB, bl_take] at hsr
    simp only [decide_true, Bool.true_and, beq_self_eq_true] at hsr
    cases he : eGet (bl o) with
    | none =>
      rw [he] at hfi hre
      simp only [Option.isSome_none] at hfi hre
      simp [g1', hM, hw, hsp, hfi, hcp, hol, hrv, hre, hvv, hsr, hA, z1, z2, hX, hY, y3, y4, bl_take, bl_drop, ex2_0, ex2_1, ex3_0, ex3_1, ex3_2]
    | some j =>
      rw [he] at hfi hre
      simp only [Option.isSome_some] at hfi hre
      have hmj := hm' j he
      subst hmj
      have hj := (eGet_le he).2
      have z3 : ∀ hp : H, slSl hp 1 (bAV 5 o) (some 0) (some (j : Int)) = some (bAV 5 (o.map (·.take j))) := fun hp => sl_toO hj
      have z4 : ∀ hp : H, slSl hp 1 (bAV 5 o) (some (j : Int)) (some ((bl o).length : Int)) = some (bAV 5 (o.map (·.drop j))) := fun hp => sl_fromO hj
      simp [g1', hM, hw, hsp, hfi, hcp, hol, hrv, hre, hvv, hsr, hA, z1, z2, hX, hY, y3, y4, z3, z4, bl_take, bl_drop, ex2_0, ex2_1, ex3_0, ex3_1, ex3_2]
end Go.Proofs.YtcodfehgnjplcaaGreatDoor.Abs
