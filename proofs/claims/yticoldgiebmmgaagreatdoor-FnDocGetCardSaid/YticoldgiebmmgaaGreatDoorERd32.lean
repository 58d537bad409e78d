/- Numbers of 32 bits read. -/
import Derived.Test.YticoldgiebmmgaaGreatDoorTR9
import Derived.Test.YticoldgiebmmgaaGreatDoorFDocG
namespace Go.Proofs.YticoldgiebmmgaaGreatDoor.Abs
set_option linter.all false
open Go.Proofs
set_option linter.unusedVariables false
set_option linter.unusedSimpArgs false
set_option maxRecDepth 100000
set_option maxHeartbeats 8000000

theorem c_ReadI32_short (o : Option (List UInt8)) (h : (bl o).length < 4) : ∀ hE : H, callω fns 80 [bAV 5 o] hE = some (.tup [.int .i32 0, bAV 5 o, .bool false], hE) := by
  intro hE
  refine run80 (Nat.le_of_ble_eq_true rfl) ?_
  have h' : ((bl o).length : Int) < 4 := by omega
  simp [h, h']
theorem c_ReadI32 (a b c d : UInt8) (r : List UInt8) : ∀ hE : H, callω fns 80 [bAV 5 (some (a :: b :: c :: d :: r))] hE = some (.tup [.int .i32 (rd32 a b c d), bAV 5 (some r), .bool true], hE) := by
  intro hE
  refine run80 (Nat.le_of_ble_eq_true rfl) ?_
  have ha := a.toNat_lt; have hb := b.toNat_lt; have hc := c.toNat_lt; have hd := d.toNat_lt
  have g1 : ¬ ((r.length : Int) + 1 + 1 + 1 + 1 < 4) := by omega
  have g2 : (0 : Int) < (r.length : Int) + 1 + 1 + 1 + 1 := by omega
  have g3 : (1 : Int) < (r.length : Int) + 1 + 1 + 1 + 1 := by omega
  have g4 : (2 : Int) < (r.length : Int) + 1 + 1 + 1 + 1 := by omega
  have g5 : (3 : Int) < (r.length : Int) + 1 + 1 + 1 + 1 := by omega
  have g6 : (4 : Int) ≤ (r.length : Int) + 1 + 1 + 1 + 1 := by omega
  have w0 : IntKind.i32.wrap (a.toNat : Int) = IntKind.i32.wrap ((a.toNat : Nat) : Int) := rfl
  have o1 := or_i32 a.toNat b.toNat 8 (by omega) hb (by omega)
  have o2 := or_i32 (a.toNat + b.toNat * 256) c.toNat 16 (by omega) hc (by omega)
  have o3 := or_i32 (a.toNat + b.toNat * 256 + c.toNat * 65536) d.toNat 24 (by omega) hd (by omega)
  have m8 : min 8 IntKind.i32.bits = 8 := rfl
  have m16 : min 16 IntKind.i32.bits = 16 := rfl
  have m24 : min 24 IntKind.i32.bits = 24 := rfl
  simp [bAV, byteCells, aShift, ixV, g1, g2, g3, g4, g5, g6, slSl, m8, m16, m24]
  have wb : ∀ b : UInt8, IntKind.i32.wrap (b.toNat : Int) = b.toNat := fun b => by
    have := b.toNat_lt; rw [i32_wrap]; omega
  simp only [Int.natCast_add, Int.natCast_mul, Int.cast_ofNat_Int] at o2 o3
  have q1 : (2 : Int) ^ 8 = 256 := rfl
  have q2 : (2 : Int) ^ 16 = 65536 := rfl
  have q3 : (2 : Int) ^ 24 = 16777216 := rfl
  rw [q1] at o1; rw [q2] at o2; rw [q3] at o3
  rw [wb b, wb c, wb d, o1, o2, o3]
  refine ⟨?_, ?_⟩
  · unfold rd32; congr 1; omega
  · rw [List.take_of_length_le]; simp; omega

end Go.Proofs.YticoldgiebmmgaaGreatDoor.Abs
