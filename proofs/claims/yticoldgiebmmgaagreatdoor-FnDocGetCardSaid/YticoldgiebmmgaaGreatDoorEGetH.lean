/- What Get tells: identifiers, booleans, patterns, pointers, code with scope, stamps; another kind. -/
import Derived.Test.YticoldgiebmmgaaGreatDoorEGetG
import Derived.Test.YticoldgiebmmgaaGreatDoorTR11
namespace Go.Proofs.YticoldgiebmmgaaGreatDoor.Abs
set_option linter.all false
open Go.Proofs
set_option linter.unusedVariables false
set_option linter.unusedSimpArgs false
set_option maxRecDepth 100000
set_option maxHeartbeats 8000000

theorem c_ownArr {h : H} {i n : Nat} {l : List UInt8} (hg : h.get i = some (.cells (byteCells l))) (hn : l.length = n) (hm : n ≤ 1073741824) :
    callω fns 23 [.hsl i 0 5 1 n] h = some ((BS.mk l).av 5, h) := by
  refine run23 (Nat.le_of_ble_eq_true rfl) ?_
  have h1 := apV_arr (h := h) (e := 5) (i := i) (k := 0) (m := n) hg (by omega) hm
  simp only [List.drop_zero, List.take_of_length_le (Nat.le_of_eq hn)] at h1
  simp [h1]
theorem g_8 (l : List UInt8) : ∀ hE : H, callω fns 10 [.agg [.int .i64 8, bAV 5 (some l)], .int .i64 8] hE = some (match l with | [] => .tup [.agg zC8, .bool false] | c :: r => .tup [.agg (tvC 8 ⟨[], [], if c = 1 then 1 else 0, 0, 0, []⟩ none), .bool true], hE) := by
  intro hE
  have h := o_BooleanOK l
  have hc := c_core 8 (by omega) (by omega) (some l)
  have e0 : bAV 5 none = AV.slice .nil 0 1 [] := rfl
  cases l with
  | nil =>
    simp only at h ⊢
    have h1 := c_one false
    refine run10 (Nat.le_of_ble_eq_true rfl) ?_
    simp [hc, h, h1, zC8, e0, ex2_0, ex2_1]
  | cons c r =>
    simp only at h ⊢
    have h1 := c_one (decide (c = 1))
    have e1 : (if decide (c = 1) = true then (1 : Int) else 0) = if c = 1 then 1 else 0 := by simp
    rw [e1] at h1
    generalize (if c = 1 then (1 : Int) else 0) = N at *
    generalize decide (c = 1) = b at *
    refine run10 (Nat.le_of_ble_eq_true rfl) ?_
    simp [hc, h, h1, tvC, e0, ex2_0, ex2_1]
theorem g_11 (l : List UInt8) (hl : l.length ≤ 5000) : ∀ hE : H, callω fns 10 [.agg [.int .i64 11, bAV 5 (some l)], .int .i64 11] hE = some (match rxP l with | some (p, q, _) => .tup [.agg (tvC 11 ⟨p, q, 0, 0, 0, []⟩ none), .bool true] | none => .tup [.agg zC8, .bool false], hE) := by
  intro hE
  have h := o_RegexOK l hl
  have hc := c_core 11 (by omega) (by omega) (some l)
  have e0 : bAV 5 none = AV.slice .nil 0 1 [] := rfl
  cases hr : rxP l with
  | none =>
    rw [hr] at h; simp only at h ⊢
    refine run10 (Nat.le_of_ble_eq_true rfl) ?_
    simp [hc, h, zC8, e0, ex3_0, ex3_1, ex3_2]
  | some x =>
    obtain ⟨p, q, n⟩ := x
    rw [hr] at h; simp only at h ⊢
    refine run10 (Nat.le_of_ble_eq_true rfl) ?_
    simp [hc, h, tvC, e0, ex3_0, ex3_1, ex3_2]
theorem g_17 (l : List UInt8) (hl : l.length ≤ 5000) : ∀ hE : H, callω fns 10 [.agg [.int .i64 17, bAV 5 (some l)], .int .i64 17] hE = some (if 8 ≤ l.length then .tup [.agg (tvC 17 ⟨[], [], 0, num64 l, 0, []⟩ none), .bool true] else .tup [.agg zC8, .bool false], hE) := by
  intro hE
  have h := o_TimestampOK l hl
  have hc := c_core 17 (by omega) (by omega) (some l)
  have e0 : bAV 5 none = AV.slice .nil 0 1 [] := rfl
  have hA : numU (l.drop 4) < 2 ^ 32 := numU_lt (l.drop 4)
  have hB : numU l < 2 ^ 32 := numU_lt l
  have hs := @num64_split l
  generalize numU (l.drop 4) = A at *
  generalize numU l = B at *
  have wA : IntKind.u64.wrap (A : Int) = A := by simp [IntKind.wrap, IntKind.signed, IntKind.bits]; omega
  have wB : IntKind.u64.wrap (B : Int) = B := by simp [IntKind.wrap, IntKind.signed, IntKind.bits]; omega
  have wS : IntKind.u64.wrap ((A : Int) * 4294967296) = (A : Int) * 4294967296 := by simp [IntKind.wrap, IntKind.signed, IntKind.bits]; omega
  have ho : orI .u64 ((A : Int) * 4294967296) (B : Int) = ((A * 4294967296 + B : Nat) : Int) := by
    rw [or_64_32 A B hA hB]; simp
  have m32 : min 32 IntKind.u64.bits = 32 := rfl
  by_cases g : 8 ≤ l.length
  · simp only [g, ↓reduceIte] at h ⊢
    rw [← hs g] at ho
    generalize num64 l = N at *
    refine run10 (Nat.le_of_ble_eq_true rfl) ?_
    simp [hc, h, tvC, e0, aShift, m32, wA, wB, wS, ho, ex3_0, ex3_1, ex3_2]
  · simp only [g, ↓reduceIte] at h ⊢
    refine run10 (Nat.le_of_ble_eq_true rfl) ?_
    simp [hc, h, zC8, e0, aShift, ex3_0, ex3_1, ex3_2]
theorem g_15 (l : List UInt8) (hl : l.length ≤ 5000) (hk : okL l = true) (hn : num32 l ≤ l.length) (hs : strOk (l.drop 4) = true) (hd : docB (l.drop (8 + (num32 (l.drop 4)).toNat)) = true) :
    ∀ hE : H, callω fns 10 [.agg [.int .i64 15, bAV 5 (some l)], .int .i64 15] hE = some (.tup [.agg (tvC 15 ⟨strT (l.drop 4), [], 0, 0, 0, ((l.drop (8 + (num32 (l.drop 4)).toNat)).take (num32 (l.drop (8 + (num32 (l.drop 4)).toNat))).toNat)⟩ (oB ((l.drop (8 + (num32 (l.drop 4)).toNat)).take (num32 (l.drop (8 + (num32 (l.drop 4)).toNat))).toNat))), .bool true], hE) := by
  intro hE
  have h := o_CodeWithScopeOK l hl hk hn hs hd
  have hc := c_core 15 (by omega) (by omega) (some l)
  have e0 : bAV 5 none = AV.slice .nil 0 1 [] := rfl
  have ho := ownS ((l.drop (8 + (num32 (l.drop 4)).toNat)).take (num32 (l.drop (8 + (num32 (l.drop 4)).toNat))).toNat) (by simp only [List.length_take, List.length_drop]; omega)
  generalize (l.drop (8 + (num32 (l.drop 4)).toNat)).take (num32 (l.drop (8 + (num32 (l.drop 4)).toNat))).toNat = D at *
  generalize strT (l.drop 4) = T at *
  refine run10 (Nat.le_of_ble_eq_true rfl) ?_
  simp [hc, h, ho, mkO, tvC, e0, ex3_0, ex3_1, ex3_2]
  try rfl
/-! ### Twelve bytes -/
theorem g_7 (l : List UInt8) : ∀ hE : H, callv fns 10 [.agg [.int .i64 7, bAV 5 (some l)], .int .i64 7] hE = some (if 12 ≤ l.length then .tup [.agg (tvC 7 ⟨[], [], 0, 0, 0, l.take 12⟩ (oB (l.take 12))), .bool true] else .tup [.agg zC8, .bool false]) := by
  intro hE
  have h := o_ObjectIDOK l
  have hc := c_core 7 (by omega) (by omega) (some l)
  have e0 : bAV 5 none = AV.slice .nil 0 1 [] := rfl
  have hst := fun L (hL : L.length = 12) => stO_arr (D := List.replicate 12 0) (l := L) (by simp) hL
  by_cases g : 12 ≤ l.length
  · simp only [g, ↓reduceIte] at h ⊢
    have hlen : (l.take 12).length = 12 := by rw [List.length_take]; omega
    have hst' := hst _ hlen
    rw [← z12] at hst'
    generalize l.take 12 = ID at *
    have hlb : (byteCells ID).length = 12 := by simp [byteCells, hlen]
    have ho := c_ownArr (h := hE.push (.cells (byteCells ID))) (i := hE.n) (n := 12) (l := ID) (by simp) hlen (by omega)
    refine runv10 (Nat.le_of_ble_eq_true rfl) ?_
    simp [hc, h, ho, mkO, tvC, e0, hlb, noHeap_old, ex2_0, ex2_1]
    try rfl
  · simp only [g, ↓reduceIte] at h ⊢
    have hst' := hst (List.replicate 12 0) (by simp)
    have ho := c_ownArr (h := hE.push (.cells (byteCells (List.replicate 12 0)))) (i := hE.n) (n := 12) (l := List.replicate 12 0) (by simp) (by simp) (by omega)
    rw [← z12] at ho hst' h
    refine runv10 (Nat.le_of_ble_eq_true rfl) ?_
    simp [hc, h, ho, mkO, zC8, e0, noHeap_old, ex2_0, ex2_1]
    try rfl
theorem g_12 (l : List UInt8) (hl : l.length ≤ 5000) : ∀ hE : H, callv fns 10 [.agg [.int .i64 12, bAV 5 (some l)], .int .i64 12] hE = some (if dbOk l = true then .tup [.agg (tvC 12 ⟨strT l, [], 0, 0, 0, (l.drop (4 + (num32 l).toNat)).take 12⟩ (oB ((l.drop (4 + (num32 l).toNat)).take 12))), .bool true] else .tup [.agg zC8, .bool false]) := by
  intro hE
  have h := o_DBPointerOK l hl
  have hc := c_core 12 (by omega) (by omega) (some l)
  have e0 : bAV 5 none = AV.slice .nil 0 1 [] := rfl
  have hst := fun L (hL : L.length = 12) => stO_arr (D := List.replicate 12 0) (l := L) (by simp) hL
  cases hb : dbOk l with
  | true =>
    rw [hb] at h; simp only [if_true] at h ⊢
    have hlen : ((l.drop (4 + (num32 l).toNat)).take 12).length = 12 := by
      have : (num32 l).toNat + 16 ≤ l.length := by unfold dbOk at hb; simp only [Bool.and_eq_true, decide_eq_true_eq] at hb; exact hb.2
      rw [List.length_take, List.length_drop]; omega
    have hst' := hst _ hlen
    rw [← z12] at hst'
    generalize (l.drop (4 + (num32 l).toNat)).take 12 = ID at *
    generalize strT l = T at *
    have hlb : (byteCells ID).length = 12 := by simp [byteCells, hlen]
    have ho := c_ownArr (h := hE.push (.cells (byteCells ID))) (i := hE.n) (n := 12) (l := ID) (by simp) hlen (by omega)
    refine runv10 (Nat.le_of_ble_eq_true rfl) ?_
    simp [hc, h, ho, mkO, tvC, e0, hlb, noHeap_old, ex3_0, ex3_1, ex3_2]
    try rfl
  | false =>
    rw [hb] at h; simp only [Bool.false_eq_true, if_false] at h ⊢
    have hst' := hst (List.replicate 12 0) (by simp)
    have ho := c_ownArr (h := hE.push (.cells (byteCells (List.replicate 12 0)))) (i := hE.n) (n := 12) (l := List.replicate 12 0) (by simp) (by simp) (by omega)
    rw [← z12] at ho hst' h
    refine runv10 (Nat.le_of_ble_eq_true rfl) ?_
    simp [hc, h, ho, mkO, zC8, e0, noHeap_old, ex3_0, ex3_1, ex3_2]
    try rfl
end Go.Proofs.YticoldgiebmmgaaGreatDoor.Abs
