/- How many bytes an element takes by the specification. -/
import Derived.Test.YtdnfnobgeddbfaaGreatDoorESpan
import Derived.Test.YtdnfnobgeddbfaaGreatDoorEB4
namespace Go.Proofs.YtdnfnobgeddbfaaGreatDoor.Abs
set_option linter.all false
open Go.Proofs
set_option linter.unusedVariables false
set_option linter.unusedSimpArgs false
set_option maxRecDepth 100000
set_option maxHeartbeats 8000000

theorem eGet_cons (t : UInt8) (r : List UInt8) : eGet (t :: r) = (nul r).bind fun i => (vGet t.toNat (r.drop (i + 1))).map fun n => i + 2 + n := by
  simp only [eGet]
  cases hn : nul r with
  | none => simp
  | some i =>
    have hi := (nul_lt hn).1
    simp only [Option.bind_some]
    unfold vGet
    cases hv : vLen t.toNat (r.drop (i + 1)) with
    | none => simp
    | some n =>
      simp only [Option.bind_some, List.length_drop]
      by_cases g : n ≤ r.length - (i + 1)
      · have g' : i + 2 + n ≤ r.length + 1 := by omega
        simp [g, g']
      · have g' : ¬ i + 2 + n ≤ r.length + 1 := by omega
        simp [g, g']
theorem c_DocFirst (o : Option (List UInt8)) (hl : (bl o).length ≤ 5000) : ∃ m : Int, (∀ n, eGet (bl o) = some n → m = n) ∧ ∀ hE : H, callω fns 48 [bAV 5 o] hE = some (.tup [.int .i64 m, .bool (eGet (bl o)).isSome], hE) := by
  match o, hl with
  | none, _ =>
    refine ⟨0, (fun n h => by cases h), fun hE => run48 (Nat.le_of_ble_eq_true rfl) ?_⟩
    simp [bl, eGet]
  | some [], _ =>
    refine ⟨0, (fun n h => by cases h), fun hE => run48 (Nat.le_of_ble_eq_true rfl) ?_⟩
    simp [bl, eGet]
  | some (t :: r), hl =>
    simp only [bl] at hl ⊢
    rw [eGet_cons]
    have g0 : ¬ ((r.length : Int) + 1 = 0) := by omega
    have hn := c_DocName (some r) (by simp only [bl, List.length_cons] at hl ⊢; omega)
    simp only [bl] at hn
    cases hnul : nul r with
    | none =>
      have e1 : nmR r = ([], 0, false) := by simp [nmR, hnul]
      rw [e1] at hn
      refine ⟨0, (fun n h => by cases h), fun hE => run48 (Nat.le_of_ble_eq_true rfl) ?_⟩
      simp [bl, g0, sl_tail, hn, ex3_0, ex3_1, ex3_2]
    | some i =>
      have hil := (nul_lt hnul).1
      have e1 : nmR r = (r.take i, i + 1, true) := by simp [nmR, hnul]
      rw [e1] at hn
      simp only [List.length_cons] at hl
      have ht := t.toNat_lt
      obtain ⟨m, q1, q2⟩ := c_DocSpan t.toNat (by omega) (by omega) (some (r.drop (i + 1))) (by simp only [bl, List.length_drop]; omega)
      simp only [bl] at q1 q2
      simp only [Option.bind_some]
      have s := fun hp => sl_past (hp := hp) (e := 5) (t := t) (r := r) (i := i) hil
      have w1 : IntKind.i64.wrap (1 + ((i : Int) + 1)) = i + 2 := by rw [wrap_i64 (by omega) (by omega)]; omega
      have w3 : IntKind.i64.wrap (t.toNat : Int) = t.toNat := wrap_i64 (by omega) (by omega)
      generalize hV : vGet (t.toNat : Int) (r.drop (i + 1)) = V at *
      refine ⟨IntKind.i64.wrap ((i : Int) + 2 + m), fun n h => ?_, fun hE => run48 (Nat.le_of_ble_eq_true rfl) ?_⟩
      · cases V with
        | none => cases h
        | some j =>
          simp only [Option.map_some, Option.some.injEq] at h
          have hj : j ≤ 5000 := by
            unfold vGet at hV
            cases hv : vLen t.toNat (r.drop (i + 1)) with
            | none => rw [hv] at hV; cases hV
            | some x =>
              rw [hv] at hV
              simp only [Option.bind_some, List.length_drop] at hV
              split at hV
              · injection hV with hV; omega
              · cases hV
          have := q1 j rfl
          rw [wrap_i64 (by omega) (by omega)]; omega
      · simp [bl, g0, sl_tail, hn, s, w1, w3, ix_head, q2, ex2_0, ex2_1, ex3_0, ex3_1, ex3_2]
end Go.Proofs.YtdnfnobgeddbfaaGreatDoor.Abs
