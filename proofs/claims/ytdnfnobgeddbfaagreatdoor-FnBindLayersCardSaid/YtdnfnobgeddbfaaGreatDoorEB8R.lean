/- The element with a number, of a document of any bytes. -/
import Derived.Test.YtdnfnobgeddbfaaGreatDoorEB8
import Derived.Test.YtdnfnobgeddbfaaGreatDoorEB7
namespace Go.Proofs.YtdnfnobgeddbfaaGreatDoor.Abs
set_option linter.all false
open Go.Proofs
set_option linter.unusedVariables false
set_option linter.unusedSimpArgs false
set_option maxRecDepth 100000
set_option maxHeartbeats 8000000

theorem c_impIndex (l : List UInt8) (hl : l.length < 2147483648) (i : Int) {s : Nat → Nat × Nat} {hE : H} (hS : Sens hE.Γ s) (he : (bl (atE l (IntKind.u64.wrap i).toNat)).length < 2147483648) :
    callω fns 13 [bAV 5 (some l), .int .i64 i] hE = some (.tup [(BS.mk (bl (atE l (IntKind.u64.wrap i).toNat))).av 5, .int .i64 (atC l (IntKind.u64.wrap i).toNat)], hE) := by
  have hw0 : 0 ≤ IntKind.u64.wrap i := by simp [IntKind.wrap, IntKind.signed, IntKind.bits]; omega
  have hw1 : IntKind.u64.wrap i < 18446744073709551616 := by simp [IntKind.wrap, IntKind.signed, IntKind.bits]; omega
  have hk : ((IntKind.u64.wrap i).toNat : Int) = IntKind.u64.wrap i := by omega
  have hk64 : (IntKind.u64.wrap i).toNat < 18446744073709551616 := by omega
  generalize hK : (IntKind.u64.wrap i).toNat = K at *
  have h1 : ∀ hE : H, Sens hE.Γ s → callω fns 46 [bAV 5 (some l), .int .u64 K] hE = some (.tup [bAV 5 (atE l K), atV s l K], hE) := fun hE hS => c_indexErr l hl K hk64 hS
  have ho := c_own (atE l K) he
  have hw : IntKind.u64.wrap i = (K : Int) := hk.symm
  have hcs := atV_cases s l K
  have hcode : ∀ hE : H, Sens hE.Γ s → callω fns 23 [atV s l K] hE = some (.int .i64 (atC l K), hE) := by
    intro hE hS
    unfold atC
    rcases hcs with ⟨h, h'⟩ | ⟨a, b, h, h'⟩ | ⟨h, h'⟩
    · rw [h, h']; exact c_code_nil hE
    · rw [h]
      have e1 : ¬ (atR l K).1 = 0 := by omega
      have e2 : ¬ (atR l K).1 = 2 := by omega
      rw [if_neg e1, if_neg e2]; exact c_code_few a b hE
    · rw [h, h']; exact c_code_sen (i := 0) (by omega) hS
  generalize atE l K = E at *
  generalize hV : atV s l K = V at *
  generalize atC l K = C at *
  have hvk : (∀ t, V.kill t = V) ∧ gvV V = V ∧ hdV V = V ∧ lfV V = V ∧ V.cls .left = V ∧ (∀ m, cpV m V = V) ∧ (∀ m, cpS m V = V) ∧ V.plain = true ∧ V.cells = [V] ∧ V.several = false ∧ ∀ st n, takeU V st n = (V, st.set n V) := by
    rcases hcs with ⟨h, _⟩ | ⟨a, b, h, _⟩ | ⟨h, _⟩ <;> rw [h] <;>
      exact ⟨fun _ => rfl, rfl, rfl, rfl, rfl, fun m => by cases m <;> rfl, fun m => by cases m <;> rfl, rfl, rfl, rfl, fun _ _ => rfl⟩
  obtain ⟨q1, q2, q3, q4, q5, q6, q7, q8, q9, q10, q11⟩ := hvk
  have h2 : ∀ hE : H, Sens hE.Γ s → callω fns 31 [bAV 5 (some l), .int .u64 K] hE = some (.tup [bAV 5 E, V], hE) := by
    intro hE hS
    have h1' := h1 hE.mask hS
    refine run31 (Nat.le_of_ble_eq_true rfl) ?_
    simp [h1', ex2_0, ex2_1, q1, q2, q3, q4, q5, q6, q7, q8, q9, q10, q11]
  have h3 : ∀ hE : H, Sens hE.Γ s → callω fns 30 [bAV 5 (some l), .int .u64 K] hE = some (.tup [bAV 5 E, V], hE) := by
    intro hE hS
    have h2' := h2 hE.mask hS
    refine run30 (Nat.le_of_ble_eq_true rfl) ?_
    simp [h2', ex2_0, ex2_1, q1, q2, q3, q4, q5, q6, q7, q8, q9, q10, q11]
  have h3' := h3 hE.mask hS
  have h4 := hcode hE.mask hS
  refine run13 (Nat.le_of_ble_eq_true rfl) ?_
  simp [hw, h3', h4, ho, ex2_0, ex2_1, q1, q2, q3, q4, q5, q6, q7, q8, q9, q10, q11]
end Go.Proofs.YtdnfnobgeddbfaaGreatDoor.Abs
