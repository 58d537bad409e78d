/- Four bytes reserved, a length written. -/
import Derived.Test.YticoldgiebmmgaaGreatDoorTR9
import Derived.Test.YticoldgiebmmgaaGreatDoorFDocG
namespace Go.Proofs.YticoldgiebmmgaaGreatDoor.Abs
set_option linter.all false
open Go.Proofs
set_option linter.unusedVariables false
set_option linter.unusedSimpArgs false
set_option maxRecDepth 100000
set_option maxHeartbeats 4000000

theorem c_PutUint32 (h : H) (i k n : Nat) (cp : Option Nat) (l : List UInt8) (v : Int) (hg : h.get i = some (.row 5 1 cp (byteCells l))) (hn : 4 ≤ n) (hk : k + n ≤ l.length) :
    callω fns 202 [.agg [], .hsl i k 5 1 n, .int .u32 v] h = some (.tup [], h.set i (.row 5 1 cp (byteCells (setL l k (le32 v))))) := by
  refine run202 (Nat.le_of_ble_eq_true rfl) ?_
  have g3 : (3 : Int) < n := by omega
  have g2 : (2 : Int) < n := by omega
  have g1 : (1 : Int) < n := by omega
  have g0 : (0 : Int) < n := by omega
  have e3 := byteCells_get l (k + 3) (by omega)
  have h8 : v.fdiv 256 = v / 256 := shr_i64 v 8
  have h16 : v.fdiv 65536 = v / 65536 := shr_i64 v 16
  have h24 : v.fdiv 16777216 = v / 16777216 := shr_i64 v 24
  have f0 : 0 < n := by omega
  have l1 : k + 1 ≤ l.length := by omega
  have l2 : k + 1 + 1 ≤ l.length := by omega
  have l3 : k + 2 + 1 ≤ l.length := by omega
  have l4 : k + 3 + 1 ≤ l.length := by omega
  have c1 := setL_length l k [byteOf v] (by simp; omega)
  have c2 := setL_length (setL l k [byteOf v]) (k + 1) [byteOf (v / 256)] (by simp; omega)
  have c3 := setL_length (setL (setL l k [byteOf v]) (k + 1) [byteOf (v / 256)]) (k + 2) [byteOf (v / 65536)] (by simp; omega)
  have c4 : setL (setL (setL (setL l k [byteOf v]) (k + 1) [byteOf (v / 256)]) (k + 2) [byteOf (v / 65536)]) (k + 3) [byteOf (v / 16777216)] = setL l k (le32 v) := by
    have a1 := setL_setL l k [byteOf v] [byteOf (v / 256)] (by simp; omega)
    have a2 := setL_setL l k [byteOf v, byteOf (v / 256)] [byteOf (v / 65536)] (by simp; omega)
    have a3 := setL_setL l k [byteOf v, byteOf (v / 256), byteOf (v / 65536)] [byteOf (v / 16777216)] (by simp; omega)
    simp at a1 a2 a3
    rw [a1, a2, a3]; rfl
  simp [ixV, g3, g2, g1, f0, hg, e3, ldO, H.set_get hg, -splice, aShift, IntKind.bits, h8, h16, h24, u8_wrap, stO, H.get_set_same hg, splice_byte, AV.isOwn, l1, l2, l3, l4, c1, c2, c3, c4]

theorem le32_u32 (n : Int) : le32 (IntKind.u32.wrap n) = le32 n := by
  have e : IntKind.u32.wrap n = n % 4294967296 := by simp [IntKind.wrap, IntKind.signed, IntKind.bits]
  rw [e]
  unfold le32 byteOf
  have h1 : n % 4294967296 % 256 = n % 256 := by omega
  have h2 : n % 4294967296 / 256 % 256 = n / 256 % 256 := by omega
  have h3 : n % 4294967296 / 65536 % 256 = n / 65536 % 256 := by omega
  have h4 : n % 4294967296 / 16777216 % 256 = n / 16777216 % 256 := by omega
  rw [h1, h2, h3, h4]

theorem c_UpdateLength (l : List UInt8) (i n : Int) (h0 : 0 ≤ i) (h1 : i + 4 ≤ l.length) (hl : l.length ≤ 1073741824) :
    ∀ h : H, callv fns 151 [(BS.own true l).av 5, .int .i32 i, .int .i32 n] h = some ((BS.own true (setL l i.toNat (le32 n))).av 5) := by
  intro h
  have hp := c_PutUint32 (h.push (.row 5 1 none (byteCells l))) h.n i.toNat (l.length - i.toNat) none l (IntKind.u32.wrap n) (by simp) (by omega) (by omega)
  rw [le32_u32] at hp
  have hi : i ≤ l.length := by omega
  have e1 : (setL l i.toNat (le32 n)).length = l.length := setL_length _ _ _ (by rw [le32_length]; omega)
  refine runv151 (Nat.le_of_ble_eq_true rfl) ?_
  simp [BS.av, slSl, h0, hi, hp, e1, Run_some']

theorem c_ReserveLength (b : BS) (hl : b.l.length ≤ 1073741824) : ∀ h : H, callω fns 160 [b.av 5] h = some (.tup [.int .i32 b.l.length, (b.app [0, 0, 0, 0]).av 5], h) := by
  intro h
  refine run160 (Nat.le_of_ble_eq_true rfl) ?_
  have h1 : ∀ h : H, apV h 5 1 1 false (b.av 5) (.slice (.own true) 5 1 [.int .u8 0, .int .u8 0, .int .u8 0, .int .u8 0]) = some ((b.app [0, 0, 0, 0]).av 5) := fun h => by
    have := apV_l4 (hp := h) (e := 5) (f := true) (b := b) (c1 := 0) (c2 := 0) (c3 := 0) (c4 := 0) (by simp [tooLong]; omega)
    exact this
  have hi : IntKind.i32.wrap (b.l.length : Int) = b.l.length := by simp [IntKind.wrap, IntKind.signed, IntKind.bits]; omega
  simp [h1, hi]
end Go.Proofs.YticoldgiebmmgaaGreatDoor.Abs
