/- Numbers of 64 bits read. -/
import Derived.Test.YticoldgiebmmgaaGreatDoorTR9
import Derived.Test.YticoldgiebmmgaaGreatDoorFDocG
namespace Go.Proofs.YticoldgiebmmgaaGreatDoor.Abs
set_option linter.all false
open Go.Proofs
set_option linter.unusedVariables false
set_option linter.unusedSimpArgs false
set_option maxRecDepth 100000
set_option maxHeartbeats 8000000

theorem c_ReadI64_short (o : Option (List UInt8)) (h : (bl o).length < 8) : ∀ hE : H, callω fns 78 [bAV 5 o] hE = some (.tup [.int .i64 0, bAV 5 o, .bool false], hE) := by
  intro hE
  refine run78 (Nat.le_of_ble_eq_true rfl) ?_
  have h' : ((bl o).length : Int) < 8 := by omega
  simp [h, h']
theorem c_ReadI64 (a b c d e f g h : UInt8) (r : List UInt8) : ∀ hE : H, callω fns 78 [bAV 5 (some (a :: b :: c :: d :: e :: f :: g :: h :: r))] hE = some (.tup [.int .i64 (rd64 a b c d e f g h), bAV 5 (some r), .bool true], hE) := by
  intro hE
  refine run78 (Nat.le_of_ble_eq_true rfl) ?_
  have ha := a.toNat_lt; have hb := b.toNat_lt; have hc := c.toNat_lt; have hd := d.toNat_lt
  have he := e.toNat_lt; have hf := f.toNat_lt; have hg := g.toNat_lt; have hh := h.toNat_lt
  have g1 : ¬ ((r.length : Int) + 1 + 1 + 1 + 1 + 1 + 1 + 1 + 1 < 8) := by omega
  have g2 : (0 : Int) < (r.length : Int) + 1 + 1 + 1 + 1 + 1 + 1 + 1 + 1 := by omega
  have g3 : (1 : Int) < (r.length : Int) + 1 + 1 + 1 + 1 + 1 + 1 + 1 + 1 := by omega
  have g4 : (2 : Int) < (r.length : Int) + 1 + 1 + 1 + 1 + 1 + 1 + 1 + 1 := by omega
  have g5 : (3 : Int) < (r.length : Int) + 1 + 1 + 1 + 1 + 1 + 1 + 1 + 1 := by omega
  have g6 : (4 : Int) < (r.length : Int) + 1 + 1 + 1 + 1 + 1 + 1 + 1 + 1 := by omega
  have g7 : (5 : Int) < (r.length : Int) + 1 + 1 + 1 + 1 + 1 + 1 + 1 + 1 := by omega
  have g8 : (6 : Int) < (r.length : Int) + 1 + 1 + 1 + 1 + 1 + 1 + 1 + 1 := by omega
  have g9 : (7 : Int) < (r.length : Int) + 1 + 1 + 1 + 1 + 1 + 1 + 1 + 1 := by omega
  have g10 : (8 : Int) ≤ (r.length : Int) + 1 + 1 + 1 + 1 + 1 + 1 + 1 + 1 := by omega
  have o1 := or_i64 a.toNat b.toNat 8 (by omega) hb (by omega)
  have o2 := or_i64 (a.toNat + b.toNat * 2 ^ 8) c.toNat 16 (by omega) hc (by omega)
  have o3 := or_i64 (a.toNat + b.toNat * 2 ^ 8 + c.toNat * 2 ^ 16) d.toNat 24 (by omega) hd (by omega)
  have o4 := or_i64 (a.toNat + b.toNat * 2 ^ 8 + c.toNat * 2 ^ 16 + d.toNat * 2 ^ 24) e.toNat 32 (by omega) he (by omega)
  have o5 := or_i64 (a.toNat + b.toNat * 2 ^ 8 + c.toNat * 2 ^ 16 + d.toNat * 2 ^ 24 + e.toNat * 2 ^ 32) f.toNat 40 (by omega) hf (by omega)
  have o6 := or_i64 (a.toNat + b.toNat * 2 ^ 8 + c.toNat * 2 ^ 16 + d.toNat * 2 ^ 24 + e.toNat * 2 ^ 32 + f.toNat * 2 ^ 40) g.toNat 48 (by omega) hg (by omega)
  have o7 := or_i64 (a.toNat + b.toNat * 2 ^ 8 + c.toNat * 2 ^ 16 + d.toNat * 2 ^ 24 + e.toNat * 2 ^ 32 + f.toNat * 2 ^ 40 + g.toNat * 2 ^ 48) h.toNat 56 (by omega) hh (by omega)
  simp only [Int.natCast_add, Int.natCast_mul, Int.natCast_pow, Int.cast_ofNat_Int] at o2 o3 o4 o5 o6 o7
  have wb : ∀ b : UInt8, IntKind.i64.wrap (b.toNat : Int) = b.toNat := fun b => by
    have := b.toNat_lt; rw [i64_wrap]; omega
  have m8 : min 8 IntKind.i64.bits = 8 := rfl
  have m16 : min 16 IntKind.i64.bits = 16 := rfl
  have m24 : min 24 IntKind.i64.bits = 24 := rfl
  have m32 : min 32 IntKind.i64.bits = 32 := rfl
  have m40 : min 40 IntKind.i64.bits = 40 := rfl
  have m48 : min 48 IntKind.i64.bits = 48 := rfl
  have m56 : min 56 IntKind.i64.bits = 56 := rfl
  rw [wb a] at o1
  simp only [Int.reducePow] at o1 o2 o3 o4 o5 o6 o7
  simp [bAV, byteCells, aShift, ixV, g1, g2, g3, g4, g5, g6, g7, g8, g9, g10, slSl, m8, m16, m24, m32, m40, m48, m56, wb, o1, o2, o3, o4, o5, o6, o7]
  refine ⟨?_, ?_⟩
  · unfold rd64; congr 1; omega
  · rw [List.take_of_length_le]; simp; omega
end Go.Proofs.YticoldgiebmmgaaGreatDoor.Abs
