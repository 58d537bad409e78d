/- Numbers read from bytes, the lowest byte first. -/
import Derived.Test.YtdnfnobgeddbfaaDoorTR2
namespace Go.Proofs.YtdnfnobgeddbfaaDoor.Abs
set_option linter.all false
set_option linter.unusedVariables false

/-- Four bytes as a number with a sign, the lowest first. -/
def rd32 (a b c d : UInt8) : Int := IntKind.i32.wrap (a.toNat + 256 * b.toNat + 65536 * c.toNat + 16777216 * d.toNat)

theorem i32_wrap (n : Int) : IntKind.i32.wrap n = if n % 4294967296 ≥ 2147483648 then n % 4294967296 - 4294967296 else n % 4294967296 := by
  simp [IntKind.wrap, IntKind.signed, IntKind.bits]
theorem ofInt_wrap32 (n : Int) : BitVec.ofInt 32 (IntKind.i32.wrap n) = BitVec.ofInt 32 n := by
  apply BitVec.eq_of_toInt_eq
  rw [i32_wrap]; simp only [BitVec.toInt_ofInt]
  split <;> simp only [Int.bmod] <;> omega
theorem or_i32 (x : Nat) (c : Nat) (k : Nat) (hx : x < 2 ^ k) (hc : c < 256) (hk : k ≤ 24) :
    orI .i32 (IntKind.i32.wrap (x : Int)) (IntKind.i32.wrap ((c : Int) * 2 ^ k)) = IntKind.i32.wrap ((x : Int) + c * 2 ^ k) := by
  show IntKind.i32.wrap ((BitVec.ofInt 32 (IntKind.i32.wrap (x : Int)) ||| BitVec.ofInt 32 (IntKind.i32.wrap ((c : Int) * 2 ^ k))).toNat : Int) = _
  rw [ofInt_wrap32, ofInt_wrap32]
  have e1 : ((c : Int) * 2 ^ k) = ((c <<< k : Nat) : Int) := by rw [Nat.shiftLeft_eq]; simp
  rw [e1]
  simp only [BitVec.ofInt_natCast]
  have e2 : x ||| (c <<< k) = c <<< k + x := by rw [Nat.or_comm, Nat.shiftLeft_add_eq_or_of_lt hx]
  have hk2 : 2 ^ k ≤ 2 ^ 24 := Nat.pow_le_pow_right (by omega) hk
  have h1 : x < 2 ^ 32 := by omega
  have h2 : c <<< k < 2 ^ 32 := by
    rw [Nat.shiftLeft_eq]
    calc c * 2 ^ k ≤ c * 2 ^ 24 := Nat.mul_le_mul_left _ hk2
      _ < 2 ^ 32 := by omega
  rw [BitVec.toNat_or, BitVec.toNat_ofNat, BitVec.toNat_ofNat, Nat.mod_eq_of_lt h1, Nat.mod_eq_of_lt h2, e2]
  congr 1; omega

/-- A row's part. -/
theorem sl_b {hp : H} {e : Nat} {l : List UInt8} {i j : Int} (h0 : 0 ≤ i) (h1 : i ≤ j) (h2 : j ≤ l.length) : slSl hp 1 (bAV e (some l)) (some i) (some j) = some (bAV e (some ((l.drop i.toNat).take (j.toNat - i.toNat)))) := by
  simp [slSl, bAV, byteCells, h0, h1, h2, List.map_take, List.map_drop]

/-! ### The law's plain part -/
theorem byteOf_toNat (n : Int) : ((byteOf n).toNat : Int) = n % 256 := by
  unfold byteOf; rw [UInt8.toNat_ofNat']; omega
theorem rd32_le32 {n : Int} (h0 : -2147483648 ≤ n) (h1 : n < 2147483648) : rd32 (byteOf n) (byteOf (n / 256)) (byteOf (n / 65536)) (byteOf (n / 16777216)) = n := by
  unfold rd32
  rw [byteOf_toNat, byteOf_toNat, byteOf_toNat, byteOf_toNat, i32_wrap]
  omega


/-! ### Numbers of 64 bits -/
def rd64 (a b c d e f g h : UInt8) : Int := IntKind.i64.wrap (a.toNat + 2 ^ 8 * b.toNat + 2 ^ 16 * c.toNat + 2 ^ 24 * d.toNat + 2 ^ 32 * e.toNat + 2 ^ 40 * f.toNat + 2 ^ 48 * g.toNat + 2 ^ 56 * h.toNat)
theorem i64_wrap (n : Int) : IntKind.i64.wrap n = if n % 18446744073709551616 ≥ 9223372036854775808 then n % 18446744073709551616 - 18446744073709551616 else n % 18446744073709551616 := by
  simp [IntKind.wrap, IntKind.signed, IntKind.bits]
theorem ofInt_wrap64 (n : Int) : BitVec.ofInt 64 (IntKind.i64.wrap n) = BitVec.ofInt 64 n := by
  apply BitVec.eq_of_toInt_eq
  rw [i64_wrap]; simp only [BitVec.toInt_ofInt]
  split <;> simp only [Int.bmod] <;> omega
theorem or_i64 (x : Nat) (c : Nat) (k : Nat) (hx : x < 2 ^ k) (hc : c < 256) (hk : k ≤ 56) :
    orI .i64 (IntKind.i64.wrap (x : Int)) (IntKind.i64.wrap ((c : Int) * 2 ^ k)) = IntKind.i64.wrap ((x : Int) + c * 2 ^ k) := by
  show IntKind.i64.wrap ((BitVec.ofInt 64 (IntKind.i64.wrap (x : Int)) ||| BitVec.ofInt 64 (IntKind.i64.wrap ((c : Int) * 2 ^ k))).toNat : Int) = _
  rw [ofInt_wrap64, ofInt_wrap64]
  have e1 : ((c : Int) * 2 ^ k) = ((c <<< k : Nat) : Int) := by rw [Nat.shiftLeft_eq]; simp
  rw [e1]
  simp only [BitVec.ofInt_natCast]
  have e2 : x ||| (c <<< k) = c <<< k + x := by rw [Nat.or_comm, Nat.shiftLeft_add_eq_or_of_lt hx]
  have hk2 : 2 ^ k ≤ 2 ^ 56 := Nat.pow_le_pow_right (by omega) hk
  have h1 : x < 2 ^ 64 := by omega
  have h2 : c <<< k < 2 ^ 64 := by
    rw [Nat.shiftLeft_eq]
    calc c * 2 ^ k ≤ c * 2 ^ 56 := Nat.mul_le_mul_left _ hk2
      _ < 2 ^ 64 := by omega
  rw [BitVec.toNat_or, BitVec.toNat_ofNat, BitVec.toNat_ofNat, Nat.mod_eq_of_lt h1, Nat.mod_eq_of_lt h2, e2]
  congr 1; omega
theorem rd64_le64 {n : Int} (h0 : -9223372036854775808 ≤ n) (h1 : n ≤ 9223372036854775807) :
    rd64 (byteOf n) (byteOf (n / 2 ^ 8)) (byteOf (n / 2 ^ 16)) (byteOf (n / 2 ^ 24)) (byteOf (n / 2 ^ 32)) (byteOf (n / 2 ^ 40)) (byteOf (n / 2 ^ 48)) (byteOf (n / 2 ^ 56)) = n := by
  unfold rd64
  simp only [byteOf_toNat]
  rw [i64_wrap]
  omega

/-! ### Few, right and short -/
/-- What a value's size is bounded by. -/
def Tr.sz (v : Tr) : Nat := v.nb + 18 * v.nodes
def Ks.sz (ks : Ks) : Nat := ks.nb + 18 * ks.nodes
def Tr.fine (v : Tr) (c b : Nat) : Bool := decide (v.count c ≤ c) && (v.right 200 && decide (IntKind.i64.wrap v.nb ≤ b))
/-- A document of elements. -/
def Ks.tr (ks : Ks) (kn : Bool) : Tr := .mk 3 [] [] 0 0 0 none kn ks
/-- What is few, right and short is not long. -/
theorem fine_sz {v : Tr} {c b : Nat} (hc : c ≤ 1000) (hW : v.wf) (h : v.fine c b = true) : v.sz ≤ b + 18 * c ∧ v.right 200 = true ∧ v.nodes ≤ c ∧ v.nb ≤ b := by
  simp only [Tr.fine, Bool.and_eq_true, decide_eq_true_eq] at h
  obtain ⟨h1, h0, h3⟩ := h
  have h2 := Tr.count_all v c (by omega) h1
  rw [h2] at h1
  have hle := Tr.nb_le v hW
  simp only [reachBytes] at hle
  rw [wrap_i64 (by omega) (by
    have : v.nodes ≤ 1000 := by omega
    have : 562949953404928 * v.nodes ≤ 562949953404928 * 1000 := Nat.mul_le_mul_left _ this
    omega)] at h3
  unfold Tr.sz
  refine ⟨by omega, h0, by omega, by omega⟩
theorem fine_szK {ks : Ks} {kn : Bool} (hl : ks.len ≤ reachBytes) (hW : ks.wf) (h : (ks.tr kn).fine 300 5000 = true) : ks.sz ≤ 11000 := by
  have := (fine_sz (by omega) (by simp [Ks.tr, Tr.wf, bl, hl, hW, IntKind.min, IntKind.max, IntKind.signed, IntKind.bits]) h).1
  simp only [Tr.sz, Ks.tr, Tr.nb, Tr.nodes] at this
  unfold Ks.sz; omega
end Go.Proofs.YtdnfnobgeddbfaaDoor.Abs
