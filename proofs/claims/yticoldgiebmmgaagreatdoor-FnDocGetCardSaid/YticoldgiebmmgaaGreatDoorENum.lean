/- The number in the first four bytes, as the specification reads it. -/
import Derived.Test.YticoldgiebmmgaaGreatDoorTR9
import Derived.Test.YticoldgiebmmgaaGreatDoorEB1
namespace Go.Proofs.YticoldgiebmmgaaGreatDoor.Abs
set_option linter.all false
open Go.Proofs
set_option linter.unusedVariables false
set_option linter.unusedSimpArgs false
set_option maxRecDepth 100000
set_option maxHeartbeats 8000000

theorem i32_u32 (n : Int) : IntKind.i32.wrap (IntKind.u32.wrap n) = IntKind.i32.wrap n := by
  rw [i32_wrap, i32_wrap, u32_wrap]; split <;> split <;> omega
theorem c_DocNumber (o : Option (List UInt8)) : ∀ hE : H, callω fns 15 [bAV 5 o] hE = some (.tup [.int .i64 (num32 (bl o)), .bool (decide (4 ≤ (bl o).length))], hE) := by
  intro hE
  refine run15 (Nat.le_of_ble_eq_true rfl) ?_
  by_cases h : (bl o).length < 4
  · have h1 : ((bl o).length : Int) < 4 := by omega
    have h2 : ¬ 4 ≤ (bl o).length := by omega
    rw [num32_short h]
    simp [h1, h2]
  · match o, h with
    | none, h => simp [bl] at h
    | some [], h => simp [bl] at h
    | some [_], h => simp [bl] at h
    | some [_, _], h => simp [bl] at h
    | some [_, _, _], h => simp [bl] at h
    | some (a :: b :: c :: d :: r), _ =>
      have ha := a.toNat_lt; have hb := b.toNat_lt; have hc := c.toNat_lt; have hd := d.toNat_lt
      have g1 : ¬ ((r.length : Int) + 1 + 1 + 1 + 1 < 4) := by omega
      have g2 : (0 : Int) < (r.length : Int) + 1 + 1 + 1 + 1 := by omega
      have g3 : (1 : Int) < (r.length : Int) + 1 + 1 + 1 + 1 := by omega
      have g4 : (2 : Int) < (r.length : Int) + 1 + 1 + 1 + 1 := by omega
      have g5 : (3 : Int) < (r.length : Int) + 1 + 1 + 1 + 1 := by omega
      have g6 : 4 ≤ r.length + 1 + 1 + 1 + 1 := by omega
      have o1 := or_u32 a.toNat b.toNat 8 (by omega) hb (by omega)
      have o2 := or_u32 (a.toNat + b.toNat * 256) c.toNat 16 (by omega) hc (by omega)
      have o3 := or_u32 (a.toNat + b.toNat * 256 + c.toNat * 65536) d.toNat 24 (by omega) hd (by omega)
      have m8 : min 8 IntKind.u32.bits = 8 := rfl
      have m16 : min 16 IntKind.u32.bits = 16 := rfl
      have m24 : min 24 IntKind.u32.bits = 24 := rfl
      simp [bl, bAV, byteCells, aShift, ixV, g1, g2, g3, g4, g5, g6, m8, m16, m24]
      have wb : ∀ b : UInt8, IntKind.u32.wrap (b.toNat : Int) = b.toNat := fun b => by
        have := b.toNat_lt; rw [u32_wrap]; omega
      simp only [Int.natCast_add, Int.natCast_mul, Int.cast_ofNat_Int] at o2 o3
      have q1 : (2 : Int) ^ 8 = 256 := rfl
      have q2 : (2 : Int) ^ 16 = 65536 := rfl
      have q3 : (2 : Int) ^ 24 = 16777216 := rfl
      rw [q1] at o1; rw [q2] at o2; rw [q3] at o3
      rw [wb b, wb c, wb d, o1, o2, o3, i32_u32]
      show IntKind.i64.wrap _ = rd32 a b c d
      have hr : IntKind.i32.wrap ((a.toNat : Int) + b.toNat * 256 + c.toNat * 65536 + d.toNat * 16777216) = rd32 a b c d := by unfold rd32; congr 1; omega
      rw [hr]
      have := num32_range (a :: b :: c :: d :: r)
      have e : num32 (a :: b :: c :: d :: r) = rd32 a b c d := rfl
      rw [e] at this
      exact wrap_i64 (by omega) (by omega)

end Go.Proofs.YticoldgiebmmgaaGreatDoor.Abs
