/- What the law's function FnBindLayers computes. -/
import Derived.Test.YtdnfnobgeddbfaaGreatDoorELay
import Derived.Test.YtdnfnobgeddbfaaGreatDoorEFits2
namespace Go.Proofs.YtdnfnobgeddbfaaGreatDoor.Abs
set_option linter.all false
open Go.Proofs
set_option linter.unusedVariables false
set_option linter.unusedSimpArgs false
set_option maxRecDepth 100000
set_option maxHeartbeats 8000000

def doc1 : List UInt8 := [12, 0, 0, 0, 16, 97, 0, 7, 0, 0, 0, 0]
theorem lk1 : lkR [[97]] doc1 = some (some (16, [7, 0, 0, 0]), .nil) := by rfl
theorem c_bindStands {s : Nat → Nat × Nat} {hE : H} (hS : Sens hE.Γ s) : callω fns 16 [] hE = some (.bool true, hE) := by
  have hl := c_bothLook (s := s) (p := [[97]]) (b := strsR [[97]]) (.inl rfl) (by simp) (d := doc1) (by simp [doc1]) lk1 (hE := hE.mask) hS
  obtain ⟨h1, h2⟩ := hl
  have e3 : (strsR [[97]]).fv 9 1 = .slice .frz 9 1 [.str [97]] := rfl
  have e4 : bAV 5 (some doc1) = .slice .frz 5 1 [.int .u8 12, .int .u8 0, .int .u8 0, .int .u8 0, .int .u8 16, .int .u8 97, .int .u8 0, .int .u8 7, .int .u8 0, .int .u8 0, .int .u8 0, .int .u8 0] := rfl
  have e5 : oB (bl (lkB (some ((16 : Int), ([7, 0, 0, 0] : List UInt8))))) = some [7, 0, 0, 0] := rfl
  have e6 : lkK (some ((16 : Int), ([7, 0, 0, 0] : List UInt8))) = 16 := rfl
  have e7 : LkE.nil.code = 0 := rfl
  simp only [e3, e4, e5, e6, e7] at h1 h2
  have hs := c_BindSame 16 16 (some [7, 0, 0, 0]) (some [7, 0, 0, 0])
  simp only [decide_true, Bool.true_and, beq_self_eq_true] at hs
  refine run16 (Nat.le_of_ble_eq_true rfl) ?_
  simp [h1, h2, hs, bl, pkV, ex2_0, ex2_1]
theorem elemAt_len : ∀ (f : Nat) (n : Int) (l : List UInt8) (k : Nat), (elemAt f n l k).2.length ≤ l.length
  | 0, n, l, k => by simp [elemAt]
  | f + 1, n, l, k => by
    simp only [elemAt]
    split
    · simp
    · split
      · exact Nat.le_refl _
      · split
        · simp; omega
        · refine Nat.le_trans (elemAt_len f _ _ _) ?_; simp
theorem atE_len (l : List UInt8) (k : Nat) : (bl (atE l k)).length ≤ l.length := by
  unfold atE atR
  split
  · split
    · have := elemAt_len (l.length + 1) (num32 l - 4) (l.drop 4) k
      rw [List.length_drop] at this
      simp only [bl]; omega
    · simp [bl]
  · simp [bl]
theorem law_FnBindLayers (o : Option (List UInt8)) (hl : (bl o).length ≤ reachBytes) (n : Int) (h1 : IntKind.i64.min ≤ n) (h2 : n ≤ IntKind.i64.max) (b : RS) (p : List (List UInt8)) (hb : b.l = p.map AV.str) (hpl : p.length ≤ reachBytes) (h : H) {s : Nat → Nat × Nat} (hS : Sens h.Γ s) :
    CW fns 3 [bAV 5 o, .int .i64 n, b.fv 9 1] h fun q => q.1 = .bool true := by
  refine (runs3 (Nat.le_of_ble_eq_true rfl) ?_)
  by_cases g1 : 2147483647 < (bl o).length
  · have g1' : (2147483647 : Int) < (bl o).length := by omega
    simp [g1', pkV]
  have g1' : ¬ (2147483647 : Int) < (bl o).length := by omega
  obtain ⟨z, hz, hfit⟩ := c_zzFits2 b p hb
  cases z with
  | false => simp [g1', hfit, pkV]
  | true =>
  cases o with
  | none => simp [hfit, bl, pkV]
  | some d =>
  have hbs : ∀ x : List UInt8, bl (some x) = x := fun _ => rfl
  simp only [hbs] at g1 g1' hl
  by_cases g2 : d = []
  · subst g2; simp [hfit, bl, pkV]
  have hdl : 0 < d.length := by cases d with | nil => exact absurd rfl g2 | cons => simp
  by_cases g3 : 5000 < d.length
  · have g3' : (5000 : Int) < d.length := by omega
    have g2' : ¬ ((d.length : Int) = 0) := by omega
    simp [g1', hfit, hbs, g2, g2', g3', pkV]
  have g3' : ¬ (5000 : Int) < d.length := by omega
  have hpn : aLen false (b.fv 9 1) = some (.int .i64 p.length) := by rw [RS.fv_len1, hb, List.length_map]
  by_cases g4 : 20 < p.length
  · have g4' : (20 : Int) < p.length := by omega
    simp [g1', hfit, hbs, g2, g3', hpn, g4', pkV]
  have g4' : ¬ (20 : Int) < p.length := by omega
  have hbS : b.fv 9 1 = (strsR p).fv 9 1 ∨ (p = [] ∧ b = .nil) := by
    cases b with
    | nil => refine .inr ⟨?_, rfl⟩; simp only [RS.l] at hb; exact List.map_eq_nil_iff.1 hb.symm
    | own f xs => refine .inl ?_; simp only [RS.l] at hb; subst hb; rfl
  have a1 := c_impElems d g2 (by omega)
  have a2 := c_lowElemsG d (by omega)
  have a3 := c_RawValidate d (by omega)
  have a4 := c_Validate d (by omega)
  have a5 := c_impVals d (by omega)
  have a6 := c_lowValsG d (by omega)
  have he : (bl (atE d (IntKind.u64.wrap n).toNat)).length < 2147483648 := by have := atE_len d (IntKind.u64.wrap n).toNat; omega
  have a7 := c_impIndex d (by omega) n (s := s) (hE := h.mask) hS he
  have a8 := c_lowIndex d (by omega) n (s := s) (hE := h.mask) hS he
  have a9 := c_Narrow p b hbS (by omega) d (by omega)
  have a0 := c_bindStands (s := s) (hE := h.mask) hS
  have hEl := eR_len d
  have hv1 : valsOf d = (eR d).1 := by unfold valsOf eR; split <;> rfl
  have hv2 : valsGood d = (eR d).2 := by unfold valsGood eR; by_cases hk : okL d = true <;> simp [hk]
  have ha1 : (if okL d = true ∧ (dR d).2 = true then AV.tup [(RS.mk (rowsC 5 (dR d).1)).av 22 1, .bool true] else .tup [.slice .nil 0 1 [], .bool false]) = if (eR d).2 = true then AV.tup [(RS.mk (rowsC 5 (eR d).1)).av 22 1, .bool true] else .tup [.slice .nil 0 1 [], .bool false] := by
    unfold eR; by_cases hk : okL d = true <;> simp [hk]
  rw [ha1] at a1
  rw [hv1, hv2] at a5
  clear ha1 hv1 hv2
  have b1 := c_bindLists (E := (eR d).1) (by omega) (RS.mk (rowsC 5 (eR d).1)) (RS.mk (rowsC 5 (eR d).1)) (RS.l_mk _) (RS.l_mk _)
  have b2 := c_bindRaws (E := (eR d).1) (by omega) (RS.mk (rawsC 5 (eR d).1)) (RS.mk (rawsC 5 (eR d).1)) (RS.l_mk _) (RS.l_mk _)
  generalize RS.mk (rowsC 5 (eR d).1) = EL at *
  generalize RS.mk (rawsC 5 (eR d).1) = VL at *
  generalize docC d = DC at *
  generalize BS.mk (bl (atE d (IntKind.u64.wrap n).toNat)) = AE at *
  generalize atC d (IntKind.u64.wrap n).toNat = AC at *
  cases hnr : nrP p d with
  | true =>
    rw [hnr] at a9
    cases hok : (eR d).2 with
    | true =>
      rw [hok] at a1 a2 a5 a6
      simp only [if_true] at a1
      simp [g1', hfit, hbs, g2, g3', hpn, g4', a1, a2, a3, a4, a5, a6, a7, a8, a9, a0, b1, b2, pkV, ex2_0, ex2_1]
    | false =>
      rw [hok] at a1 a2 a5 a6
      simp only [Bool.false_eq_true, if_false] at a1
      simp [g1', hfit, hbs, g2, g3', hpn, g4', a1, a2, a3, a4, a5, a6, a7, a8, a9, a0, b1, b2, pkV, ex2_0, ex2_1]
  | false =>
    rw [hnr] at a9
    have hsome := lkR_some p d hnr
    obtain ⟨R, hR⟩ := Option.isSome_iff_exists.1 hsome
    obtain ⟨c1, c2⟩ := c_bothLook (s := s) hbS (by omega) (d := d) (by omega) hR (hE := h.mask) hS
    have c3 := c_BindSame (lkK R.1) (lkK R.1) (oB (bl (lkB R.1))) (oB (bl (lkB R.1)))
    simp only [decide_true, Bool.true_and, beq_self_eq_true] at c3
    generalize lkK R.1 = LK at *
    generalize oB (bl (lkB R.1)) = LB at *
    generalize R.2.code = LC at *
    cases hok : (eR d).2 with
    | true =>
      rw [hok] at a1 a2 a5 a6
      simp only [if_true] at a1
      simp [g1', hfit, hbs, g2, g3', hpn, g4', a1, a2, a3, a4, a5, a6, a7, a8, a9, a0, b1, b2, c1, c2, c3, pkV, ex2_0, ex2_1]
    | false =>
      rw [hok] at a1 a2 a5 a6
      simp only [Bool.false_eq_true, if_false] at a1
      simp [g1', hfit, hbs, g2, g3', hpn, g4', a1, a2, a3, a4, a5, a6, a7, a8, a9, a0, b1, b2, c1, c2, c3, pkV, ex2_0, ex2_1]
end Go.Proofs.YtdnfnobgeddbfaaGreatDoor.Abs
