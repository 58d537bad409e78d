/- The specification and the program agree on what a value tells: booleans, pointers. -/
import Derived.Test.YticoldgiebmmgaaGreatDoorEGetA
namespace Go.Proofs.YticoldgiebmmgaaGreatDoor.Abs
set_option linter.all false
open Go.Proofs
set_option linter.unusedVariables false
set_option linter.unusedSimpArgs false
set_option maxRecDepth 100000
set_option maxHeartbeats 4000000

theorem ag_8 (o : Option (List UInt8)) (hl : (bl o).length ≤ 5000) : AG 8 o := by
  by_cases g : 1 ≤ (bl o).length
  · obtain ⟨l, rfl⟩ := some_of (o := o) g
    cases l with
    | nil => exact absurd g (by simp)
    | cons c r => exact agT rfl (d_bool c r) (cvT fun hE => g_8 (c :: r) hE)
  · have hL := len_fix (k := 8) 1 (by omega) rfl o (decide_eq_false g)
    have e : bl o = [] := List.eq_nil_of_length_eq_zero (by omega)
    refine agF (d_no 8 o hL (by omega)) (cvF fun hE => ?_)
    rw [e]; exact g_8 [] hE
theorem ag_12 (o : Option (List UInt8)) (hl : (bl o).length ≤ 5000) : AG 12 o := by
  have hL := c_LenDB o hl
  cases g : dbOk (bl o) with
  | true =>
    have g4 : 1 ≤ (bl o).length := by unfold dbOk strOk at g; simp only [Bool.and_eq_true, decide_eq_true_eq] at g; omega
    obtain ⟨l, rfl⟩ := some_of (o := o) g4
    have g' : dbOk l = true := g
    exact agT (by rw [bl_oB]) (d_db l hl g') (fun hE => by have := g_12 l hl hE; rw [if_pos g'] at this; exact this)
  | false =>
    rw [g] at hL
    have g' : ¬ dbOk (bl o) = true := by simp [g]
    exact agF (d_no 12 o hL (by omega)) (fun hE => by have := g_12 (bl o) hl hE; rw [if_neg g'] at this; exact this)
theorem rx_iff (l : List UInt8) : (vGet 11 l).isSome = (rxP l).isSome := by
  have e : vLen 11 l = rxLen l := rfl
  unfold vGet rxP
  rw [e]
  unfold rxLen
  cases h1 : nul l with
  | none => simp
  | some i =>
    have hi := (nul_lt h1).1
    cases h2 : nul (l.drop (i + 1)) with
    | none => simp [h2]
    | some j =>
      have hj := (nul_lt h2).1
      rw [List.length_drop] at hj
      have h3 : i + 1 + (j + 1) ≤ l.length := by omega
      have h4 : i + j + 2 ≤ l.length := by omega
      simp [h2]
      omega
theorem ag_11 (o : Option (List UInt8)) (hl : (bl o).length ≤ 5000) : AG 11 o := by
  obtain ⟨m, _, hL⟩ := c_Len11 o hl
  rw [rx_iff] at hL
  cases g : rxP (bl o) with
  | some x =>
    obtain ⟨p, q, n⟩ := x
    rw [g] at hL
    have g4 : 1 ≤ (bl o).length := by
      cases h : bl o with
      | nil => rw [h] at g; simp [rxP, nul] at g
      | cons c r => simp
    obtain ⟨l, rfl⟩ := some_of (o := o) g4
    have g' : rxP l = some (p, q, n) := g
    exact agT rfl (d_parse (by omega) (some l) hL rfl (tvC_gv _ _ _) (p_rx l hl g' hL)) (cvT fun hE => by have := g_11 l hl hE; rw [g'] at this; exact this)
  | none =>
    rw [g] at hL
    exact agF (d_no 11 o hL (by omega)) (cvF fun hE => by have := g_11 (bl o) hl hE; rw [g] at this; exact this)
end Go.Proofs.YticoldgiebmmgaaGreatDoor.Abs
