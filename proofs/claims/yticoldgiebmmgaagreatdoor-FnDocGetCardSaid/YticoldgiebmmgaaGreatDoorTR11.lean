/- Numbers by their bytes, the lowest first. -/
import Derived.Test.YticoldgiebmmgaaGreatDoorTR9
namespace Go.Proofs.YticoldgiebmmgaaGreatDoor.Abs
set_option linter.all false

def leN : List UInt8 → Nat
  | [] => 0
  | c :: r => c.toNat + 256 * leN r
theorem leN_lt : ∀ l : List UInt8, leN l < 256 ^ l.length
  | [] => by simp [leN]
  | c :: r => by
    have h1 := leN_lt r
    have h2 := c.toNat_lt
    simp only [leN, List.length_cons, Nat.pow_succ]
    have : leN r + 1 ≤ 256 ^ r.length := h1
    have := Nat.mul_le_mul_left 256 this
    omega
theorem u64_wrap (n : Int) : IntKind.u64.wrap n = n % 18446744073709551616 := by simp [IntKind.wrap, IntKind.signed, IntKind.bits]
theorem orU64_nat (x y : Nat) (hx : x < 2 ^ 64) (hy : y < 2 ^ 64) : orI .u64 (x : Int) (y : Int) = ((x ||| y : Nat) : Int) := by
  show IntKind.u64.wrap ((BitVec.ofInt 64 (x : Int) ||| BitVec.ofInt 64 (y : Int)).toNat : Int) = _
  simp only [BitVec.ofInt_natCast]
  rw [BitVec.toNat_or, BitVec.toNat_ofNat, BitVec.toNat_ofNat, Nat.mod_eq_of_lt hx, Nat.mod_eq_of_lt hy, u64_wrap]
  have := Nat.or_lt_two_pow hx hy
  omega
theorem or_hi {x c k : Nat} (hx : x < 2 ^ k) : x ||| (c * 2 ^ k) = x + c * 2 ^ k := by
  rw [← Nat.shiftLeft_eq, Nat.or_comm, ← Nat.shiftLeft_add_eq_or_of_lt hx]; omega
theorem or_u64 (x c k : Nat) (hx : x < 2 ^ k) (hc : c < 256) (hk : k ≤ 56) : orI .u64 (x : Int) ((c : Int) * 2 ^ k) = (x : Int) + c * 2 ^ k := by
  have hk2 : 2 ^ k ≤ 2 ^ 56 := Nat.pow_le_pow_right (by omega) hk
  have h2 : c * 2 ^ k < 2 ^ 64 := by
    calc c * 2 ^ k ≤ c * 2 ^ 56 := Nat.mul_le_mul_left _ hk2
      _ < 2 ^ 64 := by omega
  have e : ((c : Int) * 2 ^ k) = ((c * 2 ^ k : Nat) : Int) := by simp
  rw [e, orU64_nat x _ (by omega) h2, or_hi hx]; simp
theorem or_low (x c : Nat) (hx : x < 2 ^ 56) (hc : c < 256) : orI .u64 ((x : Int) * 256) (c : Int) = (x : Int) * 256 + c := by
  have e : ((x : Int) * 256) = ((x * 256 : Nat) : Int) := by simp
  rw [e, orU64_nat _ c (by omega) (by omega)]
  have : x * 256 ||| c = c + x * 2 ^ 8 := by rw [Nat.or_comm]; exact or_hi (k := 8) (by omega)
  rw [this]; omega
theorem or_64_32 (t i : Nat) (ht : t < 2 ^ 32) (hi : i < 2 ^ 32) : orI .u64 ((t : Int) * 4294967296) (i : Int) = (t : Int) * 4294967296 + i := by
  have e : ((t : Int) * 4294967296) = ((t * 4294967296 : Nat) : Int) := by simp
  rw [e, orU64_nat _ i (by omega) (by omega)]
  have : t * 4294967296 ||| i = i + t * 2 ^ 32 := by rw [Nat.or_comm]; exact or_hi (k := 32) hi
  rw [this]; omega
theorem rd64_leN (a b c d e f g h : UInt8) : rd64 a b c d e f g h = IntKind.i64.wrap (leN [a, b, c, d, e, f, g, h]) := by
  unfold rd64; congr 1; simp only [leN]; omega
end Go.Proofs.YticoldgiebmmgaaGreatDoor.Abs
