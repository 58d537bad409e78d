/- An element of the kind Int32 appended; where a document begins and ends. -/
import Derived.Test.YticoldgiebmmgaaGreatDoorTR9
import Derived.Test.YticoldgiebmmgaaGreatDoorEHead
namespace Go.Proofs.YticoldgiebmmgaaGreatDoor.Abs
set_option linter.all false
open Go.Proofs
set_option linter.unusedVariables false
set_option linter.unusedSimpArgs false
set_option maxRecDepth 100000
set_option maxHeartbeats 8000000

theorem i32_of1 {n : Int} (h0 : -2147483648 ≤ n) (h1 : n < 2147483648) : IntKind.i32.wrap n = n := by simp [IntKind.wrap, IntKind.signed, IntKind.bits]; omega
theorem apV_le32 {b : BS} {e : Nat} (n : Int) (h : b.l.length + 4 ≤ tooLong) : ∀ hp : H, apV hp e 1 1 false (b.av e) (.slice (.own true) e 1 [.int .u8 ((byteOf n).toNat : Int), .int .u8 ((byteOf (n / 256)).toNat : Int), .int .u8 ((byteOf (n / 65536)).toNat : Int), .int .u8 ((byteOf (n / 16777216)).toNat : Int)]) = some ((b.app (le32 n)).av e) := fun hp =>
  apV_l4 (by simpa using h)

theorem apV_one {b : BS} {e : Nat} (n : Int) (h0 : 0 ≤ n) (h1 : n < 256) (h : b.l.length + 1 ≤ tooLong) : ∀ hp : H, apV hp e 1 1 false (b.av e) (.slice (.own true) e 1 [.int .u8 n]) = some ((b.app [byteOf n]).av e) := fun hp => by
  have := apV_l1 (hp := hp) (e := e) (f := true) (c := byteOf n) (b := b) h
  rw [byteOf_toNat, Int.emod_eq_of_lt h0 h1] at this; exact this

theorem c_A32i32 (b : BS) (n : Int) (hb : b.l.length ≤ 1073741000) : ∀ hE : H, callω fns 213 [b.av 5, .int .i32 n] hE = some ((b.app (le32 n)).av 5, hE) := by
  intro hE
  refine run213 (Nat.le_of_ble_eq_true rfl) ?_
  have hap := apV_le32 (b := b) (e := 5) n (by simp only [tooLong]; omega)
  have h8 : n.fdiv 256 = n / 256 := shr_i64 n 8
  have h16 : n.fdiv 65536 = n / 65536 := shr_i64 n 16
  have h24 : n.fdiv 16777216 = n / 16777216 := shr_i64 n 24
  simp [aShift, IntKind.bits, u8_wrap, hap, h8, h16, h24]

theorem c_AppendInt32 (b : BS) (n : Int) (hb : b.l.length ≤ 1073741000) : ∀ hE : H, callω fns 198 [b.av 5, .int .i32 n] hE = some ((b.app (le32 n)).av 5, hE) := by
  intro hE
  refine run198 (Nat.le_of_ble_eq_true rfl) ?_
  simp [c_A32i32 b n hb]

theorem c_AppendInt32Element (b : BS) (s : List UInt8) (hp : plainL s = true) (n : Int) (hb : b.l.length + s.length + (0) ≤ 999998000) : ∀ hE : H, callω fns 144 [b.av 5, .str s, .int .i32 n] hE = some ((b.app (hdL 16 s ++ (le32 n))).av 5, hE) := by
  intro hE
  refine run144 (Nat.le_of_ble_eq_true rfl) ?_
  have a1 := c_AppendHeader b 16 s hp (by omega) (by omega) (by omega)
  have a2 := c_AppendInt32 (b.app (hdL 16 s)) n (by simp only [BS.l_app, List.length_append, hdL_length]; omega)
  simp [a1, a2] <;> simp [BS.app_app]

theorem c_DocStart (b : BS) (hl : b.l.length ≤ 1073741824) : ∀ hE : H, callω fns 125 [b.av 5] hE = some (.tup [.int .i32 b.l.length, (b.app [0, 0, 0, 0]).av 5], hE) := by
  intro hE
  refine run125 (Nat.le_of_ble_eq_true rfl) ?_
  simp [c_ReserveLength b hl, ex2_0, ex2_1]

theorem c_DocEnd (L : List UInt8) (at' : Nat) (h1 : at' + 4 ≤ L.length) (hl : L.length ≤ 1000000000) : ∀ hE : H, callω fns 108 [(BS.own true L).av 5, .int .i32 at'] hE =
    some (.tup [(BS.own true (setL (L ++ [0]) at' (le32 (((L.length + 1 - at' : Nat)) : Int)))).av 5, .nilI], hE) := by
  intro hE
  refine run108 (Nat.le_of_ble_eq_true rfl) ?_
  have w1 : IntKind.i64.wrap (at' : Int) = at' := wrap_i64 (by omega) (by omega)
  have w2 : IntKind.i64.wrap ((L.length : Int) - 4) = L.length - 4 := wrap_i64 (by omega) (by omega)
  have g1 : ¬ ((L.length : Int) - 4 < (at' : Int)) := by omega
  have hap := apV_one (b := .own true L) (e := 5) 0 (by omega) (by omega) (by simp [BS.l, tooLong]; omega)
  have e0 : byteOf 0 = 0 := rfl
  rw [e0] at hap
  have hu := c_UpdateLength (L ++ [0]) (at' : Int) ((L.length + 1 - at' : Nat) : Int) (by omega) (by simp; omega) (by simp; omega)
  have hs : ∀ h : H, slSl h 1 ((BS.own true (L ++ [0])).lv 5) (some (at' : Int)) (some ((L.length : Int) + 1)) = some (.slice .hdr 5 1 (byteCells ((L ++ [0]).drop at'))) := fun h => by
    have hb : (byteCells (L ++ [0])).length = L.length + 1 := by simp [byteCells]
    have c1 : (0 : Int) ≤ (at' : Int) ∧ (at' : Int) ≤ (L.length : Int) + 1 ∧ (L.length : Int) + 1 ≤ (((byteCells (L ++ [0])).length / 1 : Nat) : Int) ∧ (Cls.hdr = Cls.nil ∨ 1 = 1) := ⟨by omega, by omega, by rw [hb]; simp, .inr rfl⟩
    show (if (0 : Int) ≤ (at' : Int) ∧ (at' : Int) ≤ (L.length : Int) + 1 ∧ (L.length : Int) + 1 ≤ (((byteCells (L ++ [0])).length / 1 : Nat) : Int) ∧ (Cls.hdr = Cls.nil ∨ 1 = 1) then _ else none) = _
    rw [if_pos c1]
    congr 2
    rw [Int.toNat_natCast, Nat.mul_one, show ((L.length : Int) + 1).toNat = L.length + 1 by omega, List.take_of_length_le (by rw [List.length_drop, hb]; omega)]
    simp [byteCells, List.map_drop]
  have hl2 : aLen false (.slice .hdr 5 1 (byteCells ((L ++ [0]).drop at'))) = some (.int .i64 ((L.length + 1 - at' : Nat) : Int)) := by simp [aLen, byteCells]
  have w3 : IntKind.i32.wrap ((L.length + 1 - at' : Nat) : Int) = ((L.length + 1 - at' : Nat) : Int) := i32_of1 (by omega) (by omega)
  have hlen : (BS.own true L).l.length = L.length := rfl
  have hlen2 : (BS.own true (L ++ [0])).l.length = L.length + 1 := by simp [BS.l]
  have happ : (BS.own true L).app [0] = BS.own true (L ++ [0]) := rfl
  rw [happ] at hap
  simp only [Int.toNat_natCast] at hu
  simp [w1, w2, g1, hap, hs, hl2, w3, hu, hlen, hlen2, -ev_len_slice]

end Go.Proofs.YticoldgiebmmgaaGreatDoor.Abs
