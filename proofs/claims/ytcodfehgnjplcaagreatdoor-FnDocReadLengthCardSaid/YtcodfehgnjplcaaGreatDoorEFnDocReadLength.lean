/- What the law's function FnDocReadLength computes. -/
import Derived.Test.YtcodfehgnjplcaaGreatDoorEAw2
import Derived.Test.YtcodfehgnjplcaaGreatDoorENum
import Derived.Test.YtcodfehgnjplcaaGreatDoorECopy2
namespace Go.Proofs.YtcodfehgnjplcaaGreatDoor.Abs
set_option linter.all false
open Go.Proofs
set_option linter.unusedVariables false
set_option linter.unusedSimpArgs false
set_option maxRecDepth 100000
set_option maxHeartbeats 8000000

theorem sl_none {hp : H} {e : Nat} : slSl hp 1 (bAV e none) (some 0) (some 0) = some (bAV e none) := by simp [slSl, bAV]
theorem c_impReadLength (l : List UInt8) (hl : l.length < 2147483648) : ∀ hE : H, callω fns 12 [bAV 5 (some l)] hE = some (.tup [.int .i64 (num32 l), (BS.mk (bl (rest4 (some l)))).av 5, .bool (okL l)], hE) := by
  intro hE
  have h := c_RLen (some l)
  simp only [bl] at h
  have hlen : (bl (rest4 (some l))).length ≤ l.length := by
    by_cases h4 : 4 ≤ l.length
    · rw [rest4_some h4]; simp [bl]
    · match l, h4 with
      | [], _ => simp [rest4, bl]
      | [_], _ => simp [rest4, bl]
      | [_, _], _ => simp [rest4, bl]
      | [_, _, _], _ => simp [rest4, bl]
      | _ :: _ :: _ :: _ :: r, h => simp at h
  have ho := c_own (rest4 (some l)) (by omega)
  have hr := num32_range l
  have w : IntKind.i64.wrap (num32 l) = num32 l := wrap_i64 (by omega) (by omega)
  generalize rest4 (some l) = R at *
  generalize okL l = ok at *
  generalize num32 l = N at *
  generalize BS.mk (bl R) = B at *
  refine run12 (Nat.le_of_ble_eq_true rfl) ?_
  simp [h, ho, w, ex3_0, ex3_1, ex3_2]
theorem law_FnDocReadLength (o : Option (List UInt8)) (h : H) {s : Nat → Nat × Nat} (hS : Sens h.Γ s) : CW fns 3 [bAV 5 o] h fun q => q.1 = .bool true := by
  refine (runs3 (Nat.le_of_ble_eq_true rfl) ?_)
  by_cases h1 : 2147483647 < (bl o).length
  · have h1' : (2147483647 : Int) < (bl o).length := by omega
    simp [h1']
  have h1' : ¬ (2147483647 : Int) < (bl o).length := by omega
  by_cases h2 : 1000 < (bl o).length
  · have h2' : (1000 : Int) < (bl o).length := by omega
    simp [h1', h2']
  have h2' : ¬ (1000 : Int) < (bl o).length := by omega
  have hN := c_DocNumber o
  have hC := c_docCopy o (by omega)
  have hR := c_impReadLength (bl o) (by omega)
  have hA := c_docAwake h.mask hS
  have ho1 : (BS.own true (bl o)).opt = some (bl o) := rfl
  by_cases h4 : 4 ≤ (bl o).length
  · by_cases h0 : num32 (bl o) < 0
    · simp [h1', h2', hN, h4, h0, ex2_0, ex2_1]
    · have hk : okL (bl o) = true := by unfold okL; simp [h4]; omega
      obtain ⟨l, rfl⟩ : ∃ l, o = some l := by cases o with | none => simp [bl] at h4 | some l => exact ⟨l, rfl⟩
      simp only [bl] at *
      rw [hk, rest4_some h4] at hR
      have hs : ∀ hp : H, slSl hp 1 (bAV 5 (some l)) (some 4) (some (l.length : Int)) = some (bAV 5 (some (l.drop 4))) := fun hp => sl_from (m := 4) h4
      have hm : bl (BS.mk (l.drop 4)).opt = l.drop 4 := by simp
      generalize num32 l = N at *
      generalize l.drop 4 = D at *
      simp [h1', h2', hN, h4, h0, hC, hR, hA, ho1, hs, hm, bl, ex2_0, ex2_1, ex3_0, ex3_1, ex3_2]
      exact hm
  · have hk : okL (bl o) = false := by unfold okL; simp [h4]
    have hr4 : rest4 (some (bl o)) = some (bl o) := by
      generalize bl o = l at *
      match l, h4 with
      | [], _ => rfl
      | [_], _ => rfl
      | [_, _], _ => rfl
      | [_, _, _], _ => rfl
      | _ :: _ :: _ :: _ :: r, h => simp at h
    rw [hk, hr4] at hR
    have hn0 := num32_short (l := bl o) (by omega)
    rw [hn0] at hR hN
    have hm : bl (BS.mk (bl o)).opt = bl o := by simp
    have hs : ∀ hp : H, slSl hp 1 (bAV 5 o) (some 0) (some ((bl o).length : Int)) = some (bAV 5 o) := fun hp => by
      cases o with
      | none => exact sl_none
      | some l => have := sl_to (hp := hp) (e := 5) (l := l) (m := l.length) (Nat.le_refl _); rw [List.take_length] at this; exact this
    have e1 : bl (some (bl o)) = bl o := rfl
    rw [e1] at hR
    generalize hB : BS.mk (bl o) = B at *
    generalize hO : (bl o) = OL at *
    simp [h1', h2', hN, h4, hC, hR, hA, ho1, hs, hO, ex2_0, ex2_1, ex3_0, ex3_1, ex3_2]
    rw [← hB]; simp
end Go.Proofs.YtcodfehgnjplcaaGreatDoor.Abs
