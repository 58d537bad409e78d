/- What the law's function FnDocGet computes. -/
import Derived.Test.YticoldgiebmmgaaGreatDoorEGetL
import Derived.Test.YticoldgiebmmgaaGreatDoorEAw2
import Derived.Test.YticoldgiebmmgaaGreatDoorECopy2
namespace Go.Proofs.YticoldgiebmmgaaGreatDoor.Abs
set_option linter.all false
open Go.Proofs
set_option linter.unusedVariables false
set_option linter.unusedSimpArgs false
set_option maxRecDepth 100000
set_option maxHeartbeats 8000000

theorem c_zzFits3G (rk : Int) (o : Option (List UInt8)) : ∀ hE : H, callω fns 4 [.agg [.int .i64 rk, bAV 5 o]] hE = some (.bool (decide ((bl o).length ≤ 2147483647)), hE) := by
  intro hE
  refine run4 (Nat.le_of_ble_eq_true rfl) ?_
  by_cases g : 2147483647 < (bl o).length
  · have g' : (2147483647 : Int) < (bl o).length := by omega
    have g2 : ¬ (bl o).length ≤ 2147483647 := by omega
    simp [g', g2]
  · have g' : ¬ (2147483647 : Int) < (bl o).length := by omega
    have g2 : (bl o).length ≤ 2147483647 := by omega
    simp [g', g2]
theorem law_FnDocGet (rk : Int) (o : Option (List UInt8)) (k : Int) (h0 : 0 ≤ k) (h1 : k < 256) (h : H) {s : Nat → Nat × Nat} (hS : Sens h.Γ s) :
    CW fns 3 [.agg [.int .i64 rk, bAV 5 o], .int .u8 k] h fun q => q.1 = .bool true := by
  refine (runs3 (Nat.le_of_ble_eq_true rfl) ?_)
  have hF := c_zzFits3G rk o
  have hB := c_docByte rk
  have hM := c_docModest o
  by_cases g1 : (bl o).length ≤ 2147483647
  case neg => simp [hF, g1]
  by_cases g2 : 0 ≤ rk ∧ rk ≤ 255
  case neg =>
    rw [decide_eq_false g2] at hB
    simp [hF, g1, hB]
  rw [decide_eq_true g2] at hB
  by_cases g3 : (bl o).length ≤ 5000
  case neg => simp [hF, g1, hB, hM, g3]
  have hw : IntKind.i64.wrap k = k := wrap_i64 (by omega) (by omega)
  obtain ⟨z, hAg, hz⟩ := get_all (k := k) o g3
  cases z with
  | false => simp [hF, g1, hB, hM, g3, hw, hAg]
  | true =>
  have hcp := c_docCopy o (by omega)
  have hA := c_docAwake h.mask hS
  have hMe := c_docMethod k
  have hol : (BS.own true (bl o)).opt = some (bl o) := rfl
  have e0 : bAV 5 none = AV.slice .nil 0 1 [] := rfl
  rcases hz rfl with ⟨hm, tv, ob, ob', n, b, he, hT, hG⟩ | ⟨hm, cs, n, b, hc, hgv, hT⟩
  · rw [hm] at hMe
    by_cases hr : rk = k
    · subst hr
      cases b with
      | true =>
        have hsm := c_Same8 rk tv ob ob' he
        simp only [if_true, tvC] at hT hG hsm
        simp [hF, g1, hB, hM, g3, hw, hAg, hcp, hA, hMe, hol, hT, hG, hsm, pkV, ex2_0, ex2_1, ex3_0, ex3_1, ex3_2]
      | false =>
        simp only [Bool.false_eq_true, if_false, zC8] at hT hG
        simp [hF, g1, hB, hM, g3, hw, hAg, hcp, hA, hMe, hol, hT, hG, pkV, ex2_0, ex2_1, ex3_0, ex3_1, ex3_2]
    · have hG' := x_any (k := k) (rk := rk) g2.1 (by omega) (fun _ => hr) (some (bl o))
      simp only [zC8] at hG'
      cases b with
      | true =>
        simp only [if_true, tvC] at hT
        simp [hF, g1, hB, hM, g3, hw, hAg, hcp, hA, hMe, hol, hT, hG', hr, pkV, ex2_0, ex2_1, ex3_0, ex3_1, ex3_2]
      | false =>
        simp only [Bool.false_eq_true, if_false, zC8] at hT
        simp [hF, g1, hB, hM, g3, hw, hAg, hcp, hA, hMe, hol, hT, hG', hr, pkV, ex2_0, ex2_1, ex3_0, ex3_1, ex3_2]
  · rw [hm] at hMe
    have hG' := x_any (k := k) (rk := rk) g2.1 (by omega) (fun e => by rw [hm] at e; cases e) (some (bl o))
    simp only [zC8] at hG'
    match cs, hc with
    | [c1, c2, c3, c4, c5, c6, c7, c8], _ =>
    simp only [List.map_cons, List.map_nil, List.cons.injEq, and_true] at hgv
    obtain ⟨w1, w2, w3, w4, w5, w6, w7, w8⟩ := hgv
    by_cases hr : rk = k
    · subst hr
      cases b <;> simp [hF, g1, hB, hM, g3, hw, hAg, hcp, hA, hMe, hol, hT, hG', w1, w2, w3, w4, w5, w6, w7, w8, pkV, ex2_0, ex2_1, ex3_0, ex3_1, ex3_2]
    · cases b <;> simp [hF, g1, hB, hM, g3, hw, hAg, hcp, hA, hMe, hol, hT, hG', hr, w1, w2, w3, w4, w5, w6, w7, w8, pkV, ex2_0, ex2_1, ex3_0, ex3_1, ex3_2]
end Go.Proofs.YticoldgiebmmgaaGreatDoor.Abs
