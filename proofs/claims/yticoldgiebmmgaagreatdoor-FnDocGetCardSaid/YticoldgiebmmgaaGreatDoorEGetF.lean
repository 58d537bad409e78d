/- The specification and the program agree on what a value tells: binaries, code with scope. -/
import Derived.Test.YticoldgiebmmgaaGreatDoorEGetC
namespace Go.Proofs.YticoldgiebmmgaaGreatDoor.Abs
set_option linter.all false
open Go.Proofs
set_option linter.unusedVariables false
set_option linter.unusedSimpArgs false
set_option maxRecDepth 100000
set_option maxHeartbeats 4000000

def tk5 (l : List UInt8) : Bool := binOk l && (if (l.drop 4).head? = some 2 then binAg l else true)
theorem t5_no (o : Option (List UInt8)) (hl : (bl o).length ≤ 5000) (h : tk5 (bl o) = false) :
    ∀ hE : H, callω fns 8 [.int .i64 5, bAV 5 o] hE = some (.tup [.agg zC8, .int .i64 0, .bool false], hE) := by
  have hL := c_LenBin o hl
  cases g : binOk (bl o) with
  | false => rw [g] at hL; exact d_no 5 o hL (by omega)
  | true =>
    rw [g] at hL
    have g4 : 1 ≤ (bl o).length := by unfold binOk at g; simp only [Bool.and_eq_true, decide_eq_true_eq] at g; omega
    obtain ⟨l, rfl⟩ := some_of (o := o) g4
    have g' : binOk l = true := g
    have hP := p_bin l hl g' hL
    unfold tk5 at h
    rw [g, Bool.true_and] at h
    by_cases q : (l.drop 4).head? = some 2
    · have q' : ((bl (some l)).drop 4).head? = some 2 := q
      rw [if_pos q'] at h
      have h' : ¬ binAg l = true := by have : binAg l = false := h; simp [this]
      refine d_parse (by omega) (some l) hL rfl rfl (fun hE => ?_)
      rw [hP hE, if_pos q, if_neg h']
    · have q' : ¬ ((bl (some l)).drop 4).head? = some 2 := q
      rw [if_neg q'] at h; cases h
theorem ag_5 (o : Option (List UInt8)) (hl : (bl o).length ≤ 5000) (hq : ((bl o).drop 4).head? = some 2 → tk5 (bl o) = true) : AG 5 o := by
  have hL := c_LenBin o hl
  have hag : binOk (bl o) = true → ((bl o).drop 4).head? = some 2 → 4 ≤ num32 (bl o) ∧ num32 ((bl o).drop 5) = num32 (bl o) - 4 := by
    intro _ q
    have h := hq q
    unfold tk5 at h
    rw [if_pos q] at h
    simp only [Bool.and_eq_true] at h
    have h2 := h.2
    unfold binAg at h2
    simpa using h2
  cases g : binOk (bl o) with
  | false =>
    rw [g] at hL
    have g' : ¬ binOk (bl o) = true := by simp [g]
    exact agF (d_no 5 o hL (by omega)) (cvF fun hE => by have := g_5 (bl o) hl hag hE; rw [if_neg g'] at this; exact this)
  | true =>
    rw [g] at hL
    have g4 : 1 ≤ (bl o).length := by unfold binOk at g; simp only [Bool.and_eq_true, decide_eq_true_eq] at g; omega
    obtain ⟨l, rfl⟩ := some_of (o := o) g4
    have g' : binOk l = true := g
    have hP := p_bin l hl g' hL
    by_cases q : (l.drop 4).head? = some 2
    · have hb : binAg l = true := by
        have h : tk5 l = true := hq q
        unfold tk5 at h; rw [if_pos q] at h; simp only [Bool.and_eq_true] at h; exact h.2
      have e2 : ((2 : Int)) = (((l.drop 4).headD 0).toNat : Int) := by
        cases hd : l.drop 4 with
        | nil => rw [hd] at q; cases q
        | cons c r => rw [hd] at q; simp only [List.head?_cons, Option.some.injEq] at q; subst q; rfl
      refine agT (ob := some ((l.drop 9).take ((num32 l).toNat - 4))) (ob' := oB ((l.drop 9).take ((num32 l).toNat - 4))) (by rw [bl_oB]; rfl) (d_parse (cs := tvC 5 ⟨[], [], 2, 0, 0, (l.drop 9).take ((num32 l).toNat - 4)⟩ (some ((l.drop 9).take ((num32 l).toNat - 4)))) (by omega) (some l) hL rfl (tvC_gv _ _ _) (fun hE => by rw [hP hE, if_pos q, if_pos hb])) (cvT fun hE => ?_)
      have := g_5 l hl hag hE
      rw [if_pos g', if_pos q, ← e2] at this
      exact this
    · refine agT (ob := oB ((l.drop 5).take (num32 l).toNat)) (ob' := oB ((l.drop 5).take (num32 l).toNat)) rfl (d_parse (cs := tvC 5 ⟨[], [], ((l.drop 4).headD 0).toNat, 0, 0, (l.drop 5).take (num32 l).toNat⟩ (oB ((l.drop 5).take (num32 l).toNat))) (by omega) (some l) hL rfl (tvC_gv _ _ _) (fun hE => by rw [hP hE, if_neg q])) (cvT fun hE => ?_)
      have := g_5 l hl hag hE
      rw [if_pos g', if_neg q] at this
      exact this
end Go.Proofs.YticoldgiebmmgaaGreatDoor.Abs
