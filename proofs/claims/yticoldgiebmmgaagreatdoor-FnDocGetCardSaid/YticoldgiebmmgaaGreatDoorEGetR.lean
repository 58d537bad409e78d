/- Values read from any bytes by the code, kind by kind. -/
import Derived.Test.YticoldgiebmmgaaGreatDoorEGetN
import Derived.Test.YticoldgiebmmgaaGreatDoorEB11
import Derived.Test.YticoldgiebmmgaaGreatDoorTR9
namespace Go.Proofs.YticoldgiebmmgaaGreatDoor.Abs
set_option linter.all false
open Go.Proofs
set_option linter.unusedVariables false
set_option linter.unusedSimpArgs false
set_option maxRecDepth 100000
set_option maxHeartbeats 8000000

theorem ex4_0 (a b c d : AV) : exV (.tup [a, b, c, d]) 0 = some (a, .tup [a.cls .left, b, c, d]) := rfl
theorem ex4_1 (a b c d : AV) : exV (.tup [a, b, c, d]) 1 = some (b, .tup [a, b.cls .left, c, d]) := rfl
theorem ex4_2 (a b c d : AV) : exV (.tup [a, b, c, d]) 2 = some (c, .tup [a, b, c.cls .left, d]) := rfl
theorem ex4_3 (a b c d : AV) : exV (.tup [a, b, c, d]) 3 = some (d, .tup [a, b, c, d.cls .left]) := rfl
theorem bls (x : List UInt8) : bl (some x) = x := rfl
/-! ### Numbers -/
theorem c_ReadDouble (l : List UInt8) : ∀ hE : H, callω fns 45 [bAV 5 (some l)] hE = some (if 8 ≤ l.length then .tup [.flt .f64 (num64 l), bAV 5 (some (l.drop 8)), .bool true] else .tup [.flt .f64 0, bAV 5 (some l), .bool false], hE) := by
  intro hE
  have h := c_ReadU64 (some l)
  simp only [bls, Option.map_some] at h
  by_cases g : 8 ≤ l.length
  · simp only [g, ↓reduceIte] at h ⊢
    refine run45 (Nat.le_of_ble_eq_true rfl) ?_
    simp [h, fbV, ex3_0, ex3_1, ex3_2]
  · simp only [g, ↓reduceIte] at h ⊢
    refine run45 (Nat.le_of_ble_eq_true rfl) ?_
    simp [h, ex3_0, ex3_1, ex3_2]
theorem c_ReadInt64 (l : List UInt8) : ∀ hE : H, callω fns 60 [bAV 5 (some l)] hE = some (if 8 ≤ l.length then .tup [.int .i64 (IntKind.i64.wrap (num64 l)), bAV 5 (some (l.drop 8)), .bool true] else .tup [.int .i64 0, bAV 5 (some l), .bool false], hE) := by
  intro hE
  have h := c_ReadI64' (some l)
  simp only [bls, Option.map_some] at h
  by_cases g : 8 ≤ l.length
  · simp only [g, ↓reduceIte] at h ⊢
    refine run60 (Nat.le_of_ble_eq_true rfl) ?_
    simp [h, ex3_0, ex3_1, ex3_2]
  · simp only [g, ↓reduceIte] at h ⊢
    refine run60 (Nat.le_of_ble_eq_true rfl) ?_
    simp [h, ex3_0, ex3_1, ex3_2]
theorem c_ReadDateTime (l : List UInt8) : ∀ hE : H, callω fns 52 [bAV 5 (some l)] hE = some (if 8 ≤ l.length then .tup [.int .i64 (IntKind.i64.wrap (num64 l)), bAV 5 (some (l.drop 8)), .bool true] else .tup [.int .i64 0, bAV 5 (some l), .bool false], hE) := by
  intro hE
  have h := c_ReadI64' (some l)
  simp only [bls, Option.map_some] at h
  by_cases g : 8 ≤ l.length
  · simp only [g, ↓reduceIte] at h ⊢
    refine run52 (Nat.le_of_ble_eq_true rfl) ?_
    simp [h, ex3_0, ex3_1, ex3_2]
  · simp only [g, ↓reduceIte] at h ⊢
    refine run52 (Nat.le_of_ble_eq_true rfl) ?_
    simp [h, ex3_0, ex3_1, ex3_2]
theorem c_ReadDec (l : List UInt8) : ∀ hE : H, callω fns 61 [bAV 5 (some l)] hE = some (if 16 ≤ l.length then .tup [.int .u64 (num64 (l.drop 8)), .int .u64 (num64 l), bAV 5 (some (l.drop 16)), .bool true] else .tup [.int .u64 0, .int .u64 0, bAV 5 (some l), .bool false], hE) := by
  intro hE
  have h := c_ReadU64 (some l)
  have h2 := c_ReadU64 (some (l.drop 8))
  have e2 : (8 ≤ (l.drop 8).length) = (16 ≤ l.length) := by apply propext; rw [List.length_drop]; omega
  simp only [bls, Option.map_some, e2, List.drop_drop] at h h2
  by_cases g : 8 ≤ l.length
  · simp only [g, ↓reduceIte] at h
    by_cases g2 : 16 ≤ l.length
    · simp only [g2, ↓reduceIte] at h2
      rw [if_pos g2]
      refine run61 (Nat.le_of_ble_eq_true rfl) ?_
      simp [h, h2, ex3_0, ex3_1, ex3_2]
    · simp only [g2, ↓reduceIte] at h2
      rw [if_neg g2]
      refine run61 (Nat.le_of_ble_eq_true rfl) ?_
      simp [h, h2, ex3_0, ex3_1, ex3_2]
  · simp only [g, ↓reduceIte] at h
    rw [if_neg (by omega)]
    refine run61 (Nat.le_of_ble_eq_true rfl) ?_
    simp [h, ex3_0, ex3_1, ex3_2]
theorem c_ReadInt32' (l : List UInt8) : ∀ hE : H, callω fns 58 [bAV 5 (some l)] hE = some (if 4 ≤ l.length then .tup [.int .i32 (num32 l), bAV 5 (some (l.drop 4)), .bool true] else .tup [.int .i32 0, bAV 5 (some l), .bool false], hE) := by
  intro hE
  by_cases g : 4 ≤ l.length
  · match l, g with
    | a :: b :: c :: d :: r, g =>
      have h := c_ReadI32 a b c d r
      rw [if_pos g]
      have e : num32 (a :: b :: c :: d :: r) = rd32 a b c d := rfl
      rw [e]
      refine run58 (Nat.le_of_ble_eq_true rfl) ?_
      simp [h, ex3_0, ex3_1, ex3_2]
  · have h := c_ReadI32_short (some l) (by simp only [bls]; omega)
    rw [if_neg g]
    refine run58 (Nat.le_of_ble_eq_true rfl) ?_
    simp [h, ex3_0, ex3_1, ex3_2]
def numU (l : List UInt8) : Nat := leN (l.take 4)
theorem numU_lt (l : List UInt8) : numU l < 4294967296 := by
  have h := leN_lt (l.take 4)
  have h1 : (l.take 4).length ≤ 4 := by rw [List.length_take]; omega
  have h2 : 256 ^ (l.take 4).length ≤ 256 ^ 4 := Nat.pow_le_pow_right (by omega) h1
  unfold numU; omega
theorem num64_split {l : List UInt8} (h : 8 ≤ l.length) : num64 l = numU (l.drop 4) * 4294967296 + numU l := by
  match l, h with
  | a :: b :: c :: d :: e :: f :: g :: i :: r, _ => 
    simp only [num64, numU, List.drop_succ_cons, List.drop_zero, List.take_succ_cons, List.take_zero, leN]; omega
theorem c_ReadU32 (l : List UInt8) : ∀ hE : H, callω fns 81 [bAV 5 (some l)] hE = some (if 4 ≤ l.length then .tup [.int .u32 (numU l), bAV 5 (some (l.drop 4)), .bool true] else .tup [.int .u32 0, bAV 5 (some l), .bool false], hE) := by
  intro hE
  by_cases g : 4 ≤ l.length
  · match l, g with
    | a :: b :: c :: d :: r, g =>
      have ha := a.toNat_lt; have hb := b.toNat_lt; have hc := c.toNat_lt; have hd := d.toNat_lt
      have hL : ∀ hE : H, callω fns 124 [.agg [], bAV 5 (some (a :: b :: c :: d :: r))] hE = some (.int .u32 (leN [a, b, c, d]), hE) := by
        intro hE
        have g2 : (0 : Int) < (r.length : Int) + 1 + 1 + 1 + 1 := by omega
        have g3 : (1 : Int) < (r.length : Int) + 1 + 1 + 1 + 1 := by omega
        have g4 : (2 : Int) < (r.length : Int) + 1 + 1 + 1 + 1 := by omega
        have g5 : (3 : Int) < (r.length : Int) + 1 + 1 + 1 + 1 := by omega
        have o1 := or_u32 a.toNat b.toNat 8 (by omega) hb (by omega)
        have o2 := or_u32 (a.toNat + b.toNat * 256) c.toNat 16 (by omega) hc (by omega)
        have o3 := or_u32 (a.toNat + b.toNat * 256 + c.toNat * 65536) d.toNat 24 (by omega) hd (by omega)
        have m8 : min 8 IntKind.u32.bits = 8 := rfl
        have m16 : min 16 IntKind.u32.bits = 16 := rfl
        have m24 : min 24 IntKind.u32.bits = 24 := rfl
        have wb : ∀ b : UInt8, IntKind.u32.wrap (b.toNat : Int) = b.toNat := fun b => by
          have := b.toNat_lt; rw [u32_wrap]; omega
        simp only [Int.natCast_add, Int.natCast_mul, Int.cast_ofNat_Int] at o2 o3
        have q1 : (2 : Int) ^ 8 = 256 := rfl
        have q2 : (2 : Int) ^ 16 = 65536 := rfl
        have q3 : (2 : Int) ^ 24 = 16777216 := rfl
        rw [q1, wb] at o1; rw [q2] at o2; rw [q3] at o3
        refine run124 (Nat.le_of_ble_eq_true rfl) ?_
        simp [bAV, byteCells, aShift, ixV, g2, g3, g4, g5, m8, m16, m24, wb, o1, o2, o3]
        rw [u32_wrap]; simp only [leN]; omega
      have g1 : ¬ ((r.length : Int) + 1 + 1 + 1 + 1 < 4) := by omega
      have s1 : ∀ hp : H, slSl hp 1 (bAV 5 (some (a :: b :: c :: d :: r))) (some 4) (some ((r.length : Int) + 1 + 1 + 1 + 1)) = some (bAV 5 (some r)) := fun hp => by
        rw [sl_b (by omega) (by omega) (by simp)]
        have e8 : ((4 : Int)).toNat = 4 := rfl
        rw [e8]; simp only [List.drop_succ_cons, List.drop_zero]
        rw [List.take_of_length_le (by omega)]
      rw [if_pos g]
      have e : numU (a :: b :: c :: d :: r) = leN [a, b, c, d] := rfl
      rw [e]
      simp only [List.drop_succ_cons, List.drop_zero]
      generalize leN [a, b, c, d] = N at *
      refine run81 (Nat.le_of_ble_eq_true rfl) ?_
      simp [bls, g1, hL, s1, glv_0]
  · have h' : (l.length : Int) < 4 := by omega
    rw [if_neg g]
    refine run81 (Nat.le_of_ble_eq_true rfl) ?_
    simp [bls, h']
theorem c_ReadTime (l : List UInt8) : ∀ hE : H, callω fns 59 [bAV 5 (some l)] hE = some (if 8 ≤ l.length then .tup [.int .u32 (numU (l.drop 4)), .int .u32 (numU l), bAV 5 (some (l.drop 8)), .bool true] else .tup [.int .u32 0, .int .u32 0, bAV 5 (some l), .bool false], hE) := by
  intro hE
  have h := c_ReadU32 l
  have h2 := c_ReadU32 (l.drop 4)
  have e2 : (4 ≤ (l.drop 4).length) = (8 ≤ l.length) := by apply propext; rw [List.length_drop]; omega
  simp only [e2, List.drop_drop] at h2
  by_cases g : 4 ≤ l.length
  · simp only [g, ↓reduceIte] at h
    by_cases g2 : 8 ≤ l.length
    · simp only [g2, ↓reduceIte] at h2
      rw [if_pos g2]
      refine run59 (Nat.le_of_ble_eq_true rfl) ?_
      simp [h, h2, ex3_0, ex3_1, ex3_2]
    · simp only [g2, ↓reduceIte] at h2
      rw [if_neg g2]
      refine run59 (Nat.le_of_ble_eq_true rfl) ?_
      simp [h, h2, ex3_0, ex3_1, ex3_2]
  · simp only [g, ↓reduceIte] at h
    rw [if_neg (by omega)]
    refine run59 (Nat.le_of_ble_eq_true rfl) ?_
    simp [h, ex3_0, ex3_1, ex3_2]
/-! ### Texts and bytes -/
def strOk (l : List UInt8) : Bool := decide (4 ≤ l.length) && (decide (1 ≤ num32 l) && decide (num32 l + 4 ≤ l.length))
def strT (l : List UInt8) : List UInt8 := (l.drop 4).take ((num32 l).toNat - 1)
theorem c_readstring (l : List UInt8) (hl : l.length ≤ 5000) : ∀ hE : H, callω fns 75 [bAV 5 (some l)] hE = some (if strOk l then .tup [.str (strT l), bAV 5 (some (l.drop (4 + (num32 l).toNat))), .bool true] else .tup [.str [], bAV 5 (some l), .bool false], hE) := by
  intro hE
  have hR := c_RLen (some l)
  simp only [bls] at hR
  have hr := num32_range l
  unfold strOk strT
  by_cases hk : okL l = true
  case neg =>
    simp only [Bool.not_eq_true] at hk
    rw [hk] at hR
    have hno : ¬ (4 ≤ l.length ∧ 0 ≤ num32 l) := by intro h; unfold okL at hk; simp [h.1, h.2] at hk
    have hf : (decide (4 ≤ l.length) && (decide (1 ≤ num32 l) && decide (num32 l + 4 ≤ l.length))) = false := by
      by_cases g1 : 4 ≤ l.length
      · have : ¬ 1 ≤ num32 l := by omega
        simp [this]
      · simp [g1]
    rw [hf]
    generalize rest4 (some l) = R4 at *
    refine run75 (Nat.le_of_ble_eq_true rfl) ?_
    simp [hR, ex3_0, ex3_1, ex3_2]
  case pos =>
    obtain ⟨h4, h0⟩ := okL_le hk
    rw [hk, rest4_some h4] at hR
    have hd : (l.drop 4).length = l.length - 4 := by simp
    have h4' : ∀ hp : H, slSl hp 1 (bAV 5 (some l)) (some 4) (some (l.length : Int)) = some (bAV 5 (some (l.drop 4))) := fun hp => sl_from (m := 4) h4
    have w64 : IntKind.i64.wrap (num32 l) = num32 l := wrap_i64 (by omega) (by omega)
    have w1 : IntKind.i32.wrap (num32 l - 1) = num32 l - 1 := i32_small (by omega) (by omega)
    by_cases g1 : (l.length : Int) - 4 < num32 l
    · have hf : (decide (4 ≤ l.length) && (decide (1 ≤ num32 l) && decide (num32 l + 4 ≤ l.length))) = false := by
        have : ¬ num32 l + 4 ≤ l.length := by omega
        simp [this]
      rw [hf]
      have g1' : ((l.length - 4 : Nat) : Int) < num32 l := by omega
      generalize num32 l = N at *
      refine run75 (Nat.le_of_ble_eq_true rfl) ?_
      simp [hR, w64, h4', bls, hd, g1', pkV, ex3_0, ex3_1, ex3_2]
    · have g1' : ¬ ((l.length - 4 : Nat) : Int) < num32 l := by omega
      by_cases g2 : num32 l = 0
      · have hf : (decide (4 ≤ l.length) && (decide (1 ≤ num32 l) && decide (num32 l + 4 ≤ l.length))) = false := by simp [g2]
        rw [hf]
        generalize num32 l = N at *
        subst g2
        refine run75 (Nat.le_of_ble_eq_true rfl) ?_
        simp [hR, w64, h4', bls, hd, g1', pkV, ex3_0, ex3_1, ex3_2]
      · have hf : (decide (4 ≤ l.length) && (decide (1 ≤ num32 l) && decide (num32 l + 4 ≤ l.length))) = true := by
          have h1 : 1 ≤ num32 l := by omega
          have h2 : num32 l + 4 ≤ l.length := by omega
          simp [h4, h1, h2]
        rw [hf]
        obtain ⟨n, hn⟩ : ∃ n : Nat, num32 l = n := ⟨(num32 l).toNat, by omega⟩
        rw [hn] at hR w64 w1 g1' g2 g1 ⊢
        have s1 : ∀ hp : H, slSl hp 1 (bAV 5 (some (l.drop 4))) (some 0) (some ((n : Int) - 1)) = some (bAV 5 (some ((l.drop 4).take (n - 1)))) := fun hp => by
          have := sl_to (hp := hp) (e := 5) (l := l.drop 4) (m := n - 1) (by omega)
          rwa [show ((n - 1 : Nat) : Int) = (n : Int) - 1 by omega] at this
        have s2 : ∀ hp : H, slSl hp 1 (bAV 5 (some (l.drop 4))) (some (n : Int)) (some ((l.drop 4).length : Int)) = some (bAV 5 (some (l.drop (4 + n)))) := fun hp => by
          have := sl_from (hp := hp) (e := 5) (l := l.drop 4) (m := n) (by omega)
          rwa [List.drop_drop] at this
        rw [hd] at s2
        have g2' : ¬ n = 0 := by omega
        simp only [Int.toNat_natCast]
        generalize l.drop (4 + n) = LR at *
        generalize (l.drop 4).take (n - 1) = LT at *
        refine run75 (Nat.le_of_ble_eq_true rfl) ?_
        simp [hR, w64, w1, h4', bls, hd, g1', g2', s1, s2, pkV, ex3_0, ex3_1, ex3_2]
end Go.Proofs.YticoldgiebmmgaaGreatDoor.Abs
