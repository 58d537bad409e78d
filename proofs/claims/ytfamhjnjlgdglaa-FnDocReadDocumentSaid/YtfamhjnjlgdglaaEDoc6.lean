/- Copies, and lengths read. -/
import Derived.Test.YtfamhjnjlgdglaaEDoc5
namespace Go.Proofs.Ytfamhjnjlgdglaa.Abs
set_option linter.all false
open Go.Proofs
set_option linter.unusedVariables false
set_option linter.unusedSimpArgs false
set_option maxRecDepth 100000
set_option maxHeartbeats 8000000

theorem c_docCopy (o : Option (List UInt8)) (h : (bl o).length ≤ 1073741824) : callω fns 12 [bAV 5 o] = some ((BS.own true (bl o)).av 5) := by
  refine run12 (Nat.le_of_ble_eq_true rfl) ?_
  have h1 : apV 5 1 1 false (.slice (.own true) 5 1 []) (bAV 5 o) = some ((BS.own true (bl o)).av 5) := by
    have := apV_b (e := 5) (o := o) (b := .own true []) (by simp [BS.l, tooLong]; omega)
    exact this
  simp [h1]
theorem c_own (o : Option (List UInt8)) (h : (bl o).length ≤ 1073741824) : callω fns 29 [bAV 5 o] = some ((BS.mk (bl o)).av 5) := by
  refine run29 (Nat.le_of_ble_eq_true rfl) ?_
  have h1 : apV 5 1 1 false (.slice .nil 0 1 []) (bAV 5 o) = some ((BS.mk (bl o)).av 5) := by
    have := apV_b (e := 5) (o := o) (b := .nil) (by simp [BS.l, tooLong]; omega)
    simpa [BS.av_nil, BS.nil_app] using this
  simp [h1]

/-- Four bytes as a number with a sign, the lowest first. -/
def rd32 (a b c d : UInt8) : Int := IntKind.i32.wrap (a.toNat + 256 * b.toNat + 65536 * c.toNat + 16777216 * d.toNat)

theorem i32_wrap (n : Int) : IntKind.i32.wrap n = if n % 4294967296 ≥ 2147483648 then n % 4294967296 - 4294967296 else n % 4294967296 := by
  simp [IntKind.wrap, IntKind.signed, IntKind.bits]
theorem ofInt_wrap32 (n : Int) : BitVec.ofInt 32 (IntKind.i32.wrap n) = BitVec.ofInt 32 n := by
  apply BitVec.eq_of_toInt_eq
  rw [i32_wrap]; simp only [BitVec.toInt_ofInt]
  split <;> simp only [Int.bmod] <;> omega
theorem or_i32 (x : Nat) (c : Nat) (k : Nat) (hx : x < 2 ^ k) (hc : c < 256) (hk : k ≤ 24) :
    orI .i32 (IntKind.i32.wrap (x : Int)) (IntKind.i32.wrap ((c : Int) * 2 ^ k)) = IntKind.i32.wrap ((x : Int) + c * 2 ^ k) := by
  show IntKind.i32.wrap ((BitVec.ofInt 32 (IntKind.i32.wrap (x : Int)) ||| BitVec.ofInt 32 (IntKind.i32.wrap ((c : Int) * 2 ^ k))).toNat : Int) = _
  rw [ofInt_wrap32, ofInt_wrap32]
  have e1 : ((c : Int) * 2 ^ k) = ((c <<< k : Nat) : Int) := by rw [Nat.shiftLeft_eq]; simp
  rw [e1]
  simp only [BitVec.ofInt_natCast]
  have e2 : x ||| (c <<< k) = c <<< k + x := by rw [Nat.or_comm, Nat.shiftLeft_add_eq_or_of_lt hx]
  have hk2 : 2 ^ k ≤ 2 ^ 24 := Nat.pow_le_pow_right (by omega) hk
  have h1 : x < 2 ^ 32 := by omega
  have h2 : c <<< k < 2 ^ 32 := by
    rw [Nat.shiftLeft_eq]
    calc c * 2 ^ k ≤ c * 2 ^ 24 := Nat.mul_le_mul_left _ hk2
      _ < 2 ^ 32 := by omega
  rw [BitVec.toNat_or, BitVec.toNat_ofNat, BitVec.toNat_ofNat, Nat.mod_eq_of_lt h1, Nat.mod_eq_of_lt h2, e2]
  congr 1; omega

theorem c_ReadI32_short (o : Option (List UInt8)) (h : (bl o).length < 4) : callω fns 54 [bAV 5 o] = some (.tup [.int .i32 0, bAV 5 o, .bool false]) := by
  refine run54 (Nat.le_of_ble_eq_true rfl) ?_
  have h' : ((bl o).length : Int) < 4 := by omega
  simp [h, h']
theorem c_ReadI32 (a b c d : UInt8) (r : List UInt8) : callω fns 54 [bAV 5 (some (a :: b :: c :: d :: r))] = some (.tup [.int .i32 (rd32 a b c d), bAV 5 (some r), .bool true]) := by
  refine run54 (Nat.le_of_ble_eq_true rfl) ?_
  have ha := a.toNat_lt; have hb := b.toNat_lt; have hc := c.toNat_lt; have hd := d.toNat_lt
  have g1 : ¬ ((r.length : Int) + 1 + 1 + 1 + 1 < 4) := by omega
  have g2 : (0 : Int) < (r.length : Int) + 1 + 1 + 1 + 1 := by omega
  have g3 : (1 : Int) < (r.length : Int) + 1 + 1 + 1 + 1 := by omega
  have g4 : (2 : Int) < (r.length : Int) + 1 + 1 + 1 + 1 := by omega
  have g5 : (3 : Int) < (r.length : Int) + 1 + 1 + 1 + 1 := by omega
  have g6 : (4 : Int) ≤ (r.length : Int) + 1 + 1 + 1 + 1 := by omega
  have w0 : IntKind.i32.wrap (a.toNat : Int) = IntKind.i32.wrap ((a.toNat : Nat) : Int) := rfl
  have o1 := or_i32 a.toNat b.toNat 8 (by omega) hb (by omega)
  have o2 := or_i32 (a.toNat + b.toNat * 256) c.toNat 16 (by omega) hc (by omega)
  have o3 := or_i32 (a.toNat + b.toNat * 256 + c.toNat * 65536) d.toNat 24 (by omega) hd (by omega)
  have m8 : min 8 IntKind.i32.bits = 8 := rfl
  have m16 : min 16 IntKind.i32.bits = 16 := rfl
  have m24 : min 24 IntKind.i32.bits = 24 := rfl
  simp [bAV, byteCells, aShift, ixV, g1, g2, g3, g4, g5, g6, slSl, m8, m16, m24]
  have wb : ∀ b : UInt8, IntKind.i32.wrap (b.toNat : Int) = b.toNat := fun b => by
    have := b.toNat_lt; rw [i32_wrap]; omega
  simp only [Int.natCast_add, Int.natCast_mul, Int.cast_ofNat_Int] at o2 o3
  have q1 : (2 : Int) ^ 8 = 256 := rfl
  have q2 : (2 : Int) ^ 16 = 65536 := rfl
  have q3 : (2 : Int) ^ 24 = 16777216 := rfl
  rw [q1] at o1; rw [q2] at o2; rw [q3] at o3
  rw [wb b, wb c, wb d, o1, o2, o3]
  refine ⟨?_, ?_⟩
  · unfold rd32; congr 1; omega
  · rw [List.take_of_length_le]; simp; omega

theorem c_ReadLength_short (o : Option (List UInt8)) (h : (bl o).length < 4) : callω fns 49 [bAV 5 o] = some (.tup [.int .i32 0, bAV 5 o, .bool false]) := by
  refine run49 (Nat.le_of_ble_eq_true rfl) ?_
  simp [c_ReadI32_short o h, exV]
theorem c_ReadLength (a b c d : UInt8) (r : List UInt8) : callω fns 49 [bAV 5 (some (a :: b :: c :: d :: r))] = some (.tup [.int .i32 (rd32 a b c d), bAV 5 (some r), .bool (decide (0 ≤ rd32 a b c d))]) := by
  refine run49 (Nat.le_of_ble_eq_true rfl) ?_
  by_cases h : rd32 a b c d < 0
  · have h' : ¬ 0 ≤ rd32 a b c d := by omega
    simp [c_ReadI32, exV, h, h']
  · have h' : 0 ≤ rd32 a b c d := by omega
    simp [c_ReadI32, exV, h, h']

/-- A row's part. -/
theorem sl_b {e : Nat} {l : List UInt8} {i j : Int} (h0 : 0 ≤ i) (h1 : i ≤ j) (h2 : j ≤ l.length) : slSl 1 (bAV e (some l)) (some i) (some j) = some (bAV e (some ((l.drop i.toNat).take (j.toNat - i.toNat)))) := by
  simp [slSl, bAV, byteCells, h0, h1, h2, List.map_take, List.map_drop]

theorem c_readLengthBytes {l : List UInt8} {a b c d : UInt8} {r : List UInt8} (hl : l = a :: b :: c :: d :: r) (h4 : 4 ≤ rd32 a b c d) (h : rd32 a b c d ≤ l.length) (hm : l.length ≤ 1073741824) :
    callω fns 44 [bAV 5 (some l)] = some (.tup [bAV 5 (some (l.take (rd32 a b c d).toNat)), bAV 5 (some (l.drop (rd32 a b c d).toNat)), .bool true]) := by
  refine run44 (Nat.le_of_ble_eq_true rfl) ?_
  have hr := c_ReadLength a b c d r
  rw [← hl] at hr
  generalize rd32 a b c d = n at *
  have h0 : 0 ≤ n := by omega
  have hw : IntKind.i64.wrap n = n := wrap_i64 (by omega) (by omega)
  have g1 : ¬ n < 4 := by omega
  have g2 : ¬ (l.length : Int) < n := by omega
  have s1 := sl_b (e := 5) (l := l) (i := 0) (j := n) (by omega) h0 h
  have s2 := sl_b (e := 5) (l := l) (i := n) (j := l.length) h0 h (by omega)
  rw [List.take_of_length_le (by simp)] at s2
  simp at s1
  simp [hr, exV, h0, hw, g1, g2, bl, s1, s2]

section
variable {l : List UInt8} {a b c d : UInt8} {r : List UInt8}
theorem c_coreReadDocument (hl : l = a :: b :: c :: d :: r) (h4 : 4 ≤ rd32 a b c d) (h : rd32 a b c d ≤ l.length) (hm : l.length ≤ 1073741824) :
    callω fns 33 [bAV 5 (some l)] = some (.tup [bAV 5 (some (l.take (rd32 a b c d).toNat)), bAV 5 (some (l.drop (rd32 a b c d).toNat)), .bool true]) := by
  refine run33 (Nat.le_of_ble_eq_true rfl) ?_
  simp [c_readLengthBytes hl h4 h hm, exV]
theorem c_coreReadArray (hl : l = a :: b :: c :: d :: r) (h4 : 4 ≤ rd32 a b c d) (h : rd32 a b c d ≤ l.length) (hm : l.length ≤ 1073741824) :
    callω fns 34 [bAV 5 (some l)] = some (.tup [bAV 5 (some (l.take (rd32 a b c d).toNat)), bAV 5 (some (l.drop (rd32 a b c d).toNat)), .bool true]) := by
  refine run34 (Nat.le_of_ble_eq_true rfl) ?_
  simp [c_readLengthBytes hl h4 h hm, exV]
theorem c_implReadDocument (hl : l = a :: b :: c :: d :: r) (h4 : 4 ≤ rd32 a b c d) (h : rd32 a b c d ≤ l.length) (hm : l.length ≤ 1073741824) :
    callω fns 17 [bAV 5 (some l)] = some (.tup [(BS.mk (l.take (rd32 a b c d).toNat)).av 5, (BS.mk (l.drop (rd32 a b c d).toNat)).av 5, .bool true]) := by
  refine run17 (Nat.le_of_ble_eq_true rfl) ?_
  have o1 := c_own (some (l.take (rd32 a b c d).toNat)) (by simp [bl]; omega)
  have o2 := c_own (some (l.drop (rd32 a b c d).toNat)) (by simp [bl]; omega)
  simp only [bl] at o1 o2
  simp [c_coreReadDocument hl h4 h hm, exV, o1, o2]
theorem c_implReadArray (hl : l = a :: b :: c :: d :: r) (h4 : 4 ≤ rd32 a b c d) (h : rd32 a b c d ≤ l.length) (hm : l.length ≤ 1073741824) :
    callω fns 18 [bAV 5 (some l)] = some (.tup [(BS.mk (l.take (rd32 a b c d).toNat)).av 5, (BS.mk (l.drop (rd32 a b c d).toNat)).av 5, .bool true]) := by
  refine run18 (Nat.le_of_ble_eq_true rfl) ?_
  have o1 := c_own (some (l.take (rd32 a b c d).toNat)) (by simp [bl]; omega)
  have o2 := c_own (some (l.drop (rd32 a b c d).toNat)) (by simp [bl]; omega)
  simp only [bl] at o1 o2
  simp [c_coreReadArray hl h4 h hm, exV, o1, o2]
end

/-! ### The law's plain part -/
theorem byteOf_toNat (n : Int) : ((byteOf n).toNat : Int) = n % 256 := by
  unfold byteOf; rw [UInt8.toNat_ofNat']; omega
theorem rd32_le32 {n : Int} (h0 : 0 ≤ n) (h1 : n < 2147483648) : rd32 (byteOf n) (byteOf (n / 256)) (byteOf (n / 65536)) (byteOf (n / 16777216)) = n := by
  unfold rd32
  rw [byteOf_toNat, byteOf_toNat, byteOf_toNat, byteOf_toNat, i32_wrap]
  omega

/-- What is few, right and short is not long. -/
theorem fine_sz {ks : Ks} {kn : Bool} (hW : ks.wf) (h : (ks.tr kn).fine = true) : ks.sz ≤ 11000 := by
  simp only [Tr.fine, Bool.and_eq_true, decide_eq_true_eq] at h
  obtain ⟨h1, _, h3⟩ := h
  have h2 := Tr.count_all (ks.tr kn) 300 (by omega) h1
  rw [h2] at h1
  have hn : (ks.tr kn).nodes = 1 + ks.nodes := by simp [Ks.tr, Tr.nodes]
  have hb : (ks.tr kn).nb = ks.nb := by simp [Ks.tr, Tr.nb, bl]
  have hle := Ks.nb_le ks hW
  rw [hb] at h3
  rw [hn] at h1
  simp only [reachBytes] at hle
  rw [wrap_i64 (by omega) (by
    have : ks.nodes ≤ 299 := by omega
    have : 562949953405184 * ks.nodes ≤ 562949953405184 * 299 := Nat.mul_le_mul_left _ this
    omega)] at h3
  unfold Ks.sz; omega
end Go.Proofs.Ytfamhjnjlgdglaa.Abs
