/- Documents found valid, whatever their bytes: their elements stand one behind the other. -/
import Derived.Test.YtjlioidknhdceaaDoorTR8
namespace Go.Proofs.YtjlioidknhdceaaDoor.Abs
set_option linter.all false

theorem u32_wrap (n : Int) : IntKind.u32.wrap n = n % 4294967296 := by simp [IntKind.wrap, IntKind.signed, IntKind.bits]
theorem ofInt_wrapU32 (n : Int) : BitVec.ofInt 32 (IntKind.u32.wrap n) = BitVec.ofInt 32 n := by
  apply BitVec.eq_of_toInt_eq
  rw [u32_wrap]; simp only [BitVec.toInt_ofInt]
  simp only [Int.bmod]; omega
theorem or_u32 (x : Nat) (c : Nat) (k : Nat) (hx : x < 2 ^ k) (hc : c < 256) (hk : k ≤ 24) :
    orI .u32 (IntKind.u32.wrap (x : Int)) (IntKind.u32.wrap ((c : Int) * 2 ^ k)) = IntKind.u32.wrap ((x : Int) + c * 2 ^ k) := by
  show IntKind.u32.wrap ((BitVec.ofInt 32 (IntKind.u32.wrap (x : Int)) ||| BitVec.ofInt 32 (IntKind.u32.wrap ((c : Int) * 2 ^ k))).toNat : Int) = _
  rw [ofInt_wrapU32, ofInt_wrapU32]
  have e1 : ((c : Int) * 2 ^ k) = ((c <<< k : Nat) : Int) := by rw [Nat.shiftLeft_eq]; simp
  rw [e1]
  simp only [BitVec.ofInt_natCast]
  have e2 : x ||| (c <<< k) = c <<< k + x := by rw [Nat.or_comm, Nat.shiftLeft_add_eq_or_of_lt hx]
  have hk2 : 2 ^ k ≤ 2 ^ 24 := Nat.pow_le_pow_right (by omega) hk
  have h1 : x < 2 ^ 32 := by omega
  have h2 : c <<< k < 2 ^ 32 := by
    rw [Nat.shiftLeft_eq]
    calc c * 2 ^ k ≤ c * 2 ^ 24 := Nat.mul_le_mul_left _ hk2
      _ < 2 ^ 32 := by omega
  rw [BitVec.toNat_or, BitVec.toNat_ofNat, BitVec.toNat_ofNat, Nat.mod_eq_of_lt h1, Nat.mod_eq_of_lt h2, e2]
  congr 1; omega

def eGood (e : List UInt8) : Prop := ∃ t nm d, e = t :: (nm ++ 0 :: d) ∧ eParts e = some (t, nm, d) ∧ vGet t.toNat d = some d.length
end Go.Proofs.YtjlioidknhdceaaDoor.Abs
