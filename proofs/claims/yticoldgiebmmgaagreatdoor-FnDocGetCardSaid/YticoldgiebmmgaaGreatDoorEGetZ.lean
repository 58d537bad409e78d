/- Values of equal contents are the same; where lengths agree. -/
import Derived.Test.YticoldgiebmmgaaGreatDoorEGetY
namespace Go.Proofs.YticoldgiebmmgaaGreatDoor.Abs
set_option linter.all false
open Go.Proofs
set_option linter.unusedVariables false
set_option linter.unusedSimpArgs false
set_option maxRecDepth 100000
set_option maxHeartbeats 4000000

theorem c_Same8 (k : Int) (tv : TV) (ob ob' : Option (List UInt8)) (h : bl ob = bl ob') : ∀ hE : H, callω fns 13 [.agg (tvC k tv ob'), .agg (tvC k tv ob)] hE = some (.bool true, hE) := by
  intro hE
  refine run13 (Nat.le_of_ble_eq_true rfl) ?_
  simp [tvC, h]
  refine loopω_run fns ?_
  simp
theorem c_Agrees5 (o : Option (List UInt8)) {cs : List AV} {n : Int} {b : Bool} (hc : cs.length = 8) (hT : ∀ hE : H, callω fns 8 [.int .i64 5, bAV 5 o] hE = some (.tup [.agg cs, .int .i64 n, .bool b], hE)) :
    ∀ hE : H, callω fns 7 [.int .i64 5, bAV 5 o] hE = some (.bool (if ((bl o).drop 4).head? = some 2 then b else true), hE) := by
  intro hE
  by_cases g5 : 4 < (bl o).length
  · obtain ⟨l, rfl⟩ := some_of (o := o) (by omega)
    have g5' : 4 < l.length := g5
    have g5i : (4 : Int) < l.length := by omega
    have h2 : l.drop 4 = l[4] :: l.drop 5 := by rw [List.drop_eq_getElem_cons (by omega)]
    have hix : ixV 1 (bAV 5 (some l)) (.int .i64 4) = some (.eptr (.int .u8 (l[4].toNat : Int) :: byteCells (l.drop 5))) := bAV_at (e := 5) (l := l) (k := 4) (by omega)
    have hh : ((bl (some l)).drop 4).head? = some l[4] := by show (l.drop 4).head? = _; rw [h2]; rfl
    by_cases q : l[4] = 2
    · have qi : (l[4].toNat : Int) = 2 := by rw [q]; rfl
      rw [if_pos (by rw [hh, q])]
      rw [qi] at hix
      refine run7 (Nat.le_of_ble_eq_true rfl) ?_
      simp [hT, hc, hix, bls, g5i, ex3_0, ex3_1, ex3_2]
    · have qi : ¬ (l[4].toNat : Int) = 2 := fun e => q (UInt8.toNat_inj.1 (by have : (2 : UInt8).toNat = 2 := rfl; omega))
      rw [if_neg (by rw [hh]; simpa using q)]
      refine run7 (Nat.le_of_ble_eq_true rfl) ?_
      simp [hT, hc, hix, bls, g5i, qi, ex3_0, ex3_1, ex3_2]
  · have g5i : ¬ (4 : Int) < (bl o).length := by omega
    have h2 : (bl o).drop 4 = [] := List.drop_eq_nil_of_le (by omega)
    have hh : ¬ ((bl o).drop 4).head? = some 2 := by rw [h2]; simp
    rw [if_neg hh]
    refine run7 (Nat.le_of_ble_eq_true rfl) ?_
    simp [hT, hc, g5i, ex3_0, ex3_1, ex3_2]
theorem c_Agrees15 (o : Option (List UInt8)) {cs : List AV} {n : Int} {b : Bool} (hc : cs.length = 8) (hT : ∀ hE : H, callω fns 8 [.int .i64 15, bAV 5 o] hE = some (.tup [.agg cs, .int .i64 n, .bool b], hE)) :
    ∀ hE : H, callω fns 7 [.int .i64 15, bAV 5 o] hE = some (.bool b, hE) := by
  intro hE
  refine run7 (Nat.le_of_ble_eq_true rfl) ?_
  simp [hT, hc, ex3_0, ex3_1, ex3_2]
theorem c_AgreesNo {k : Int} (h5 : ¬ k = 5) (h15 : ¬ k = 15) (o : Option (List UInt8)) :
    ∀ hE : H, callω fns 7 [.int .i64 k, bAV 5 o] hE = some (.bool true, hE) := by
  intro hE
  refine run7 (Nat.le_of_ble_eq_true rfl) ?_
  simp [h5, h15]
end Go.Proofs.YticoldgiebmmgaaGreatDoor.Abs
