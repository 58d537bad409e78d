/- The specification and the program agree on what a value tells: code with scope. -/
import Derived.Test.YticoldgiebmmgaaGreatDoorEGetF
namespace Go.Proofs.YticoldgiebmmgaaGreatDoor.Abs
set_option linter.all false
open Go.Proofs
set_option linter.unusedVariables false
set_option linter.unusedSimpArgs false
set_option maxRecDepth 100000
set_option maxHeartbeats 4000000

theorem num32_takeW {l : List UInt8} {n : Nat} (h : 4 ≤ n) : num32 (l.take n) = num32 l := by
  obtain ⟨k, rfl⟩ : ∃ k, n = k + 4 := ⟨n - 4, by omega⟩
  match l with
  | [] => simp
  | [a] => rfl
  | [a, b] => rfl
  | [a, b, c] => rfl
  | a :: b :: c :: d :: r => rfl
theorem t15_no (o : Option (List UInt8)) (hl : (bl o).length ≤ 5000) (h : cwOk (bl o) = false) :
    ∀ hE : H, callω fns 8 [.int .i64 15, bAV 5 o] hE = some (.tup [.agg zC8, .int .i64 0, .bool false], hE) := by
  cases o with
  | none =>
    have hL := c_LenDoc (k := 15) (by omega) none hl
    have e : docO (bl none) = false := by unfold docO; simp
    rw [e] at hL
    exact d_no 15 none hL (by omega)
  | some l =>
    intro hE
    have h' : ¬ cwOk l = true := by have : cwOk l = false := h; simp [this]
    rw [d_cw l hl hE, if_neg h']
theorem ag_15 (o : Option (List UInt8)) (hl : (bl o).length ≤ 5000) (hc : cwOk (bl o) = true) : AG 15 o := by
  have g4 : 1 ≤ (bl o).length := by unfold cwOk docO at hc; simp only [Bool.and_eq_true, decide_eq_true_eq] at hc; omega
  obtain ⟨l, rfl⟩ := some_of (o := o) g4
  have hc' : cwOk l = true := hc
  have hl' : l.length ≤ 5000 := hl
  have hT := fun hE => (d_cw l hl' hE).trans (by rw [if_pos hc'])
  unfold cwOk at hc'
  simp only [Bool.and_eq_true, decide_eq_true_eq] at hc'
  obtain ⟨h1, h2, h3, h4⟩ := hc'
  have h1' : 4 ≤ l.length ∧ 5 ≤ num32 l ∧ num32 l ≤ l.length := by unfold docO at h1; simpa using h1
  obtain ⟨a1, a2, a3⟩ := h1'
  obtain ⟨n, hn⟩ : ∃ n : Nat, num32 l = n := ⟨(num32 l).toNat, by omega⟩
  have hSl : (cwS l).length = n - 4 := by unfold cwS; rw [hn, List.length_take, List.length_drop]; simp only [Int.toNat_natCast]; omega
  have h2' : 4 ≤ (cwS l).length ∧ 1 ≤ num32 (cwS l) ∧ num32 (cwS l) + 4 ≤ (cwS l).length := by unfold strOk at h2; simpa using h2
  obtain ⟨b1, b2, b3⟩ := h2'
  rw [hSl] at b1 b3
  obtain ⟨m, hm⟩ : ∃ m : Nat, num32 (cwS l) = m := ⟨(num32 (cwS l)).toNat, by omega⟩
  have eS : num32 (l.drop 4) = m := by
    rw [← hm]; unfold cwS; rw [hn, Int.toNat_natCast, num32_takeW (by omega)]
  have hDl : (cwD l).length = n - (8 + m) := by unfold cwD; rw [hn, hm, List.length_take, List.length_drop]; simp only [Int.toNat_natCast]; omega
  have h3' : 4 ≤ (cwD l).length ∧ 5 ≤ num32 (cwD l) ∧ num32 (cwD l) ≤ (cwD l).length := by unfold docO at h3; simpa using h3
  obtain ⟨c1, c2, c3⟩ := h3'
  rw [hDl] at c1 c3
  have eDd : cwD l = (l.drop (8 + m)).take (n - (8 + m)) := by unfold cwD; rw [hn, hm]; rfl
  have eD : num32 (l.drop (8 + m)) = num32 (cwD l) := by rw [eDd, num32_takeW (by omega)]
  obtain ⟨d, hd⟩ : ∃ d : Nat, num32 (cwD l) = d := ⟨(num32 (cwD l)).toNat, by omega⟩
  rw [hm, hd, hn] at h4
  have hk : okL l = true := by unfold okL; rw [hn]; simp; omega
  have hs : strOk (l.drop 4) = true := by
    unfold strOk; rw [eS, List.length_drop]
    simp only [Bool.and_eq_true, decide_eq_true_eq]; omega
  have hb : docB (l.drop (8 + (num32 (l.drop 4)).toNat)) = true := by
    rw [eS, Int.toNat_natCast]
    unfold docB; rw [eD, hd, List.length_drop]
    simp only [Bool.and_eq_true, decide_eq_true_eq]; omega
  have hG := g_15 l hl' hk (by omega) hs hb
  have eT : strT (l.drop 4) = strT (cwS l) := by
    unfold strT; rw [eS, hm]
    unfold cwS; rw [hn]
    simp only [Int.toNat_natCast]
    rw [List.drop_take, List.take_take, Nat.min_eq_left (by omega)]
  have eB : (l.drop (8 + (num32 (l.drop 4)).toNat)).take (num32 (l.drop (8 + (num32 (l.drop 4)).toNat))).toNat = cwD l := by
    rw [eS, Int.toNat_natCast, eD, hd, Int.toNat_natCast, eDd]
    congr 1; omega
  rw [eT, eB] at hG
  exact agT (by rw [bl_oB]; rfl) hT (cvT hG)
end Go.Proofs.YticoldgiebmmgaaGreatDoor.Abs
