/- A value asked as one of its kind: binaries, identifiers, booleans, patterns, pointers, code with scope. -/
import Derived.Test.YticoldgiebmmgaaGreatDoorEGetO
namespace Go.Proofs.YticoldgiebmmgaaGreatDoor.Abs
set_option linter.all false
open Go.Proofs
set_option linter.unusedVariables false
set_option linter.unusedSimpArgs false
set_option maxRecDepth 100000
set_option maxHeartbeats 8000000

theorem sp2_0 (a b c : AV) : splice [a, b] 0 [c] = [c, b] := rfl
theorem sp2_1 (a b c : AV) : splice [a, b] 1 [c] = [a, c] := rfl
theorem o_BinaryOK (l : List UInt8) (hl : l.length ≤ 5000) (hag : binOk l = true → (l.drop 4).head? = some 2 → 4 ≤ num32 l ∧ num32 (l.drop 5) = num32 l - 4) :
    ∀ hE : H, callω fns 25 [.agg [.int .u8 5, bAV 5 (some l)]] hE = some (if binOk l = true then .tup [.int .u8 ((l.drop 4).headD 0).toNat, bAV 5 (some (if (l.drop 4).head? = some 2 then (l.drop 9).take ((num32 l).toNat - 4) else (l.drop 5).take (num32 l).toNat)), .bool true] else .tup [.int .u8 0, bAV 5 none, .bool false], hE) := by
  intro hE
  obtain ⟨R, h⟩ := c_ReadBin l hl hag
  have e0 : AV.slice .nil 0 1 [] = bAV 5 none := rfl
  generalize (if (l.drop 4).head? = some 2 then (l.drop 9).take ((num32 l).toNat - 4) else (l.drop 5).take (num32 l).toNat) = B at *
  generalize ((l.drop 4).headD 0).toNat = t at *
  cases hb : binOk l <;> rw [hb] at h <;> simp only [Bool.false_eq_true, if_true, if_false] at h ⊢ <;>
    (refine run25 (Nat.le_of_ble_eq_true rfl) ?_; simp [h, e0, ex4_0, ex4_1, ex4_2, ex4_3])
theorem o_ObjectIDOK (l : List UInt8) : ∀ hE : H, callω fns 26 [.agg [.int .u8 7, bAV 5 (some l)]] hE = some (if 12 ≤ l.length then .tup [.agg (byteCells (l.take 12)), .bool true] else .tup [.agg (byteCells (List.replicate 12 0)), .bool false], hE) := by
  intro hE
  have h2 := c_ReadOID l
  have hld := fun L (hL : L.length = 12) => ldO_arr (m := .take) (l := L) hL
  have hst := fun L (hL : L.length = 12) => stO_arr (D := List.replicate 12 0) (l := L) (by simp) hL
  by_cases g : 12 ≤ l.length
  · simp only [g, ↓reduceIte] at h2 ⊢
    have hlen : (l.take 12).length = 12 := by rw [List.length_take]; omega
    have hld' := hld _ hlen
    have hst' := hst _ hlen
    have hst2 := stO_arr hlen hlen
    rw [← z12] at hst'
    generalize l.take 12 = ID at *
    refine run26 (Nat.le_of_ble_eq_true rfl) ?_
    simp [h2, hld', hst', hst2, -ldO_ct, -stO_c, -splice, sp2_0, sp2_1, ex3_0, ex3_1, ex3_2]
  · simp only [g, ↓reduceIte] at h2 ⊢
    rw [← z12] at h2 ⊢
    refine run26 (Nat.le_of_ble_eq_true rfl) ?_
    simp [h2, ex3_0, ex3_1, ex3_2]
theorem o_BooleanOK (l : List UInt8) : ∀ hE : H, callω fns 27 [.agg [.int .u8 8, bAV 5 (some l)]] hE = some (match l with | [] => .tup [.bool false, .bool false] | c :: r => .tup [.bool (decide (c = 1)), .bool true], hE) := by
  intro hE
  have h := c_ReadBool l
  cases l with
  | nil =>
    simp only at h ⊢
    refine run27 (Nat.le_of_ble_eq_true rfl) ?_
    simp [h, ex3_0, ex3_1, ex3_2]
  | cons c r =>
    simp only at h ⊢
    generalize decide (c = 1) = b at *
    refine run27 (Nat.le_of_ble_eq_true rfl) ?_
    simp [h, ex3_0, ex3_1, ex3_2]
theorem o_RegexOK (l : List UInt8) (hl : l.length ≤ 5000) : ∀ hE : H, callω fns 30 [.agg [.int .u8 11, bAV 5 (some l)]] hE = some (match rxP l with | some (p, q, _) => .tup [.str p, .str q, .bool true] | none => .tup [.str [], .str [], .bool false], hE) := by
  intro hE
  obtain ⟨R, h⟩ := c_ReadRx l hl
  cases hr : rxP l with
  | none =>
    rw [hr] at h; simp only at h ⊢
    refine run30 (Nat.le_of_ble_eq_true rfl) ?_
    simp [h, ex4_0, ex4_1, ex4_2, ex4_3]
  | some x =>
    obtain ⟨p, q, n⟩ := x
    rw [hr] at h; simp only at h ⊢
    refine run30 (Nat.le_of_ble_eq_true rfl) ?_
    simp [h, ex4_0, ex4_1, ex4_2, ex4_3]
theorem o_DBPointerOK (l : List UInt8) (hl : l.length ≤ 5000) : ∀ hE : H, callω fns 31 [.agg [.int .u8 12, bAV 5 (some l)]] hE = some (if dbOk l = true then .tup [.str (strT l), .agg (byteCells ((l.drop (4 + (num32 l).toNat)).take 12)), .bool true] else .tup [.str [], .agg (byteCells (List.replicate 12 0)), .bool false], hE) := by
  intro hE
  obtain ⟨R, h⟩ := c_ReadDB l hl
  have hld := fun L (hL : L.length = 12) => ldO_arr (m := .take) (l := L) hL
  have hst := fun L (hL : L.length = 12) => stO_arr (D := List.replicate 12 0) (l := L) (by simp) hL
  cases hb : dbOk l with
  | false =>
    rw [hb] at h; simp only [Bool.false_eq_true, if_false] at h ⊢
    rw [← z12] at h ⊢
    refine run31 (Nat.le_of_ble_eq_true rfl) ?_
    simp [h, ex4_0, ex4_1, ex4_2, ex4_3]
  | true =>
    rw [hb] at h; simp only [if_true] at h ⊢
    have hlen : ((l.drop (4 + (num32 l).toNat)).take 12).length = 12 := by
      have : (num32 l).toNat + 16 ≤ l.length := by unfold dbOk at hb; simp only [Bool.and_eq_true, decide_eq_true_eq] at hb; exact hb.2
      rw [List.length_take, List.length_drop]; omega
    have hld' := hld _ hlen
    have hst' := hst _ hlen
    have hst2 := stO_arr hlen hlen
    rw [← z12] at hst'
    generalize (l.drop (4 + (num32 l).toNat)).take 12 = ID at *
    generalize strT l = T at *
    refine run31 (Nat.le_of_ble_eq_true rfl) ?_
    simp [h, hld', hst', hst2, -ldO_ct, -stO_c, -splice, sp2_0, sp2_1, ex4_0, ex4_1, ex4_2, ex4_3]
theorem o_CodeWithScopeOK (l : List UInt8) (hl : l.length ≤ 5000) (hk : okL l = true) (hn : num32 l ≤ l.length) (hs : strOk (l.drop 4) = true) (hd : docB (l.drop (8 + (num32 (l.drop 4)).toNat)) = true) :
    ∀ hE : H, callω fns 34 [.agg [.int .u8 15, bAV 5 (some l)]] hE = some (.tup [.str (strT (l.drop 4)), bAV 5 (some ((l.drop (8 + (num32 (l.drop 4)).toNat)).take (num32 (l.drop (8 + (num32 (l.drop 4)).toNat))).toNat)), .bool true], hE) := by
  intro hE
  obtain ⟨R, h⟩ := c_ReadCWS l hl hk hn hs hd
  generalize (l.drop (8 + (num32 (l.drop 4)).toNat)).take (num32 (l.drop (8 + (num32 (l.drop 4)).toNat))).toNat = D at *
  generalize strT (l.drop 4) = T at *
  refine run34 (Nat.le_of_ble_eq_true rfl) ?_
  simp [h, ex4_0, ex4_1, ex4_2, ex4_3]
end Go.Proofs.YticoldgiebmmgaaGreatDoor.Abs
