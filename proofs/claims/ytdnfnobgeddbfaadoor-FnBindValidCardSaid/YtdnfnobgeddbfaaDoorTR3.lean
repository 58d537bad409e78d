/- TR2, TR3 -/
import Derived.Test.YtdnfnobgeddbfaaDoorTR1
/- Rows of bytes that are appended to. -/
namespace Go.Proofs.YtdnfnobgeddbfaaDoor.Abs
set_option linter.all false
set_option linter.unusedVariables false

inductive BS where
  | nil
  | own (f : Bool) (l : List UInt8)

def BS.av (e : Nat) : BS → AV
  | .nil => .slice .nil 0 1 []
  | .own f l => .slice (.own f) e 1 (byteCells l)
/-- What stays where it was taken: the header. -/
def BS.lv (e : Nat) : BS → AV
  | .nil => .slice .nil 0 1 []
  | .own f l => .slice .hdr e 1 (byteCells l)
def BS.opt : BS → Option (List UInt8)
  | .nil => none
  | .own _ l => some l
def BS.sh : BS → BS
  | .nil => .nil
  | .own _ l => .own false l
def BS.l : BS → List UInt8
  | .nil => []
  | .own _ l => l
def BS.app : BS → List UInt8 → BS
  | .nil, [] => .nil
  | .nil, l => .own true l
  | .own f l, m => .own f (l ++ m)
/-- A new row. -/
def BS.mk (l : List UInt8) : BS := BS.nil.app l

theorem BS.l_app (b : BS) (m : List UInt8) : (b.app m).l = b.l ++ m := by cases b <;> cases m <;> simp [BS.app, BS.l]
@[simp] theorem BS.bl_opt (b : BS) : bl b.opt = b.l := by cases b <;> rfl
@[simp] theorem BS.l_mk (m : List UInt8) : (BS.mk m).l = m := by cases m <;> rfl
theorem BS.app_app (b : BS) (m k : List UInt8) : (b.app m).app k = b.app (m ++ k) := by
  cases b <;> cases m <;> cases k <;> simp [BS.app]
theorem BS.mk_app (m k : List UInt8) : (BS.mk m).app k = BS.mk (m ++ k) := BS.app_app _ _ _
theorem BS.nil_app (m : List UInt8) : BS.nil.app m = BS.mk m := rfl
@[simp] theorem BS.sh_l (b : BS) : b.sh.l = b.l := by cases b <;> rfl
@[simp] theorem BS.opt_sh (b : BS) : b.sh.opt = b.opt := by cases b <;> rfl

section
variable (e : Nat) (b : BS)
@[simp] theorem BS.av_gv : gvV (b.av e) = bAV e b.opt := by cases b <;> rfl
@[simp] theorem BS.av_hd : hdV (b.av e) = b.lv e := by cases b <;> rfl
@[simp] theorem BS.av_lf : lfV (b.av e) = b.lv e := by cases b <;> rfl
@[simp] theorem BS.av_left : (b.av e).cls .left = b.lv e := by cases b <;> rfl
@[simp] theorem BS.av_cpV_take : cpV .take (b.av e) = b.av e := by cases b <;> rfl
@[simp] theorem BS.av_cpS_take : cpS .take (b.av e) = b.lv e := by cases b <;> rfl
@[simp] theorem BS.av_cpV_look : cpV .look (b.av e) = bAV e b.opt := by cases b <;> rfl
@[simp] theorem BS.av_cpS_look : cpS .look (b.av e) = b.sh.av e := by cases b <;> rfl
@[simp] theorem BS.av_cpV_head : cpV .head (b.av e) = b.lv e := by cases b <;> rfl
@[simp] theorem BS.av_cpS_head : cpS .head (b.av e) = b.av e := by cases b <;> rfl
@[simp] theorem BS.av_plain : (b.av e).plain = true := by cases b <;> rfl
@[simp] theorem BS.av_cells : (b.av e).cells = [b.av e] := by cases b <;> rfl
@[simp] theorem BS.av_several : (b.av e).several = false := by cases b <;> rfl
@[simp] theorem BS.av_kill (t : Nat) : (b.av e).kill t = b.av e := by cases b <;> rfl
@[simp] theorem BS.av_len : aLen false (b.av e) = some (.int .i64 b.l.length) := by cases b <;> simp [BS.av, BS.l, byteCells]
@[simp] theorem BS.av_lenV : lenV (b.av e) = some (b.l.length : Int) := by cases b <;> simp [BS.av, BS.l, byteCells]
@[simp] theorem BS.lv_gv : gvV (b.lv e) = b.lv e := by cases b <;> rfl
@[simp] theorem BS.lv_hd : hdV (b.lv e) = b.lv e := by cases b <;> rfl
@[simp] theorem BS.lv_lf : lfV (b.lv e) = b.lv e := by cases b <;> rfl
@[simp] theorem BS.lv_left : (b.lv e).cls .left = b.lv e := by cases b <;> rfl
@[simp] theorem BS.lv_cpV (m : Mode) : cpV m (b.lv e) = b.lv e := by cases b <;> cases m <;> rfl
@[simp] theorem BS.lv_cpS (m : Mode) : cpS m (b.lv e) = b.lv e := by cases b <;> cases m <;> rfl
@[simp] theorem BS.lv_plain : (b.lv e).plain = true := by cases b <;> rfl
@[simp] theorem BS.lv_several : (b.lv e).several = false := by cases b <;> rfl
@[simp] theorem BS.lv_kill (t : Nat) : (b.lv e).kill t = b.lv e := by cases b <;> rfl
@[simp] theorem BS.lv_len : aLen false (b.lv e) = some (.int .i64 b.l.length) := by cases b <;> simp [BS.lv, BS.l, byteCells]
@[simp] theorem BS.lv_lenV : lenV (b.lv e) = some (b.l.length : Int) := by cases b <;> simp [BS.lv, BS.l, byteCells]
theorem BS.av_nil : BS.nil.av e = AV.slice .nil 0 1 [] := rfl
theorem BS.nil_av : AV.slice .nil 0 1 [] = BS.nil.av e := rfl
end

/-- Appended: what a row of bytes may be. -/
inductive Bytes (e : Nat) : AV → List UInt8 → Prop
  | b (o : Option (List UInt8)) : Bytes e (bAV e o) (bl o)
  | s (b : BS) : Bytes e (b.av e) b.l
  | lit (f : Bool) (xs : List AV) (l : List UInt8) (h : xs = byteCells l) : Bytes e (.slice (.own f) e 1 xs) l

theorem apV_bytes {hp : H} {e : Nat} (b : BS) {x : AV} {ys : List UInt8} (hx : Bytes e x ys) (h : b.l.length + ys.length ≤ tooLong) : apV hp e 1 1 false (b.av e) x = some ((b.app ys).av e) := by
  have hm : moreV hp 1 false x = some (byteCells ys) := by
    cases hx with
    | b o => cases o <;> simp [bAV, moreV, bl, byteCells]
    | s b => cases b <;> simp [BS.av, moreV, BS.l, byteCells]
    | lit f xs l h => subst h; simp [moreV]
  cases b with
  | nil =>
    simp only [BS.l, List.length_nil, Nat.zero_add] at h
    cases ys with
    | nil => simp [apV, BS.av, hm, BS.app, byteCells, tooLong]
    | cons c ys => simp [apV, BS.av, hm, BS.app, byteCells] at h ⊢; simp [tooLong] at h ⊢; omega
  | own f l =>
    simp only [BS.l] at h
    simp [apV, BS.av, hm, BS.app, byteCells_append]
    omega
theorem apV_str {hp : H} {e : Nat} (b : BS) (s : List UInt8) (h : b.l.length + s.length ≤ tooLong) : apV hp e 1 1 true (b.av e) (.str s) = some ((b.app s).av e) := by
  cases b with
  | nil =>
    simp only [BS.l, List.length_nil, Nat.zero_add] at h
    cases s with
    | nil => simp [apV, BS.av, moreV, BS.app, byteCells, tooLong]
    | cons c s => simp [apV, BS.av, moreV, BS.app, byteCells] at h ⊢; simp [tooLong] at h ⊢; omega
  | own f l =>
    simp only [BS.l] at h
    simp [apV, BS.av, moreV, BS.app, byteCells_append]
    omega

section
variable {hp : H} {e : Nat} {b : BS}
theorem apV_b {o : Option (List UInt8)} (h : b.l.length + (bl o).length ≤ tooLong) : apV hp e 1 1 false (b.av e) (bAV e o) = some ((b.app (bl o)).av e) := apV_bytes b (.b o) h
theorem apV_s {c : BS} (h : b.l.length + c.l.length ≤ tooLong) : apV hp e 1 1 false (b.av e) (c.av e) = some ((b.app c.l).av e) := apV_bytes b (.s c) h
theorem apV_l1 {f : Bool} {c : UInt8} (h : b.l.length + 1 ≤ tooLong) : apV hp e 1 1 false (b.av e) (.slice (.own f) e 1 [.int .u8 (c.toNat : Int)]) = some ((b.app [c]).av e) := apV_bytes b (.lit f _ _ rfl) h
theorem apV_l0 {f : Bool} (h : b.l.length + 1 ≤ tooLong) : apV hp e 1 1 false (b.av e) (.slice (.own f) e 1 [.int .u8 0]) = some ((b.app [0]).av e) := apV_bytes b (.lit f _ _ rfl) h
theorem apV_l2 {f : Bool} (h : b.l.length + 1 ≤ tooLong) : apV hp e 1 1 false (b.av e) (.slice (.own f) e 1 [.int .u8 2]) = some ((b.app [2]).av e) := apV_bytes b (.lit f _ _ rfl) h
theorem apV_l4 {f : Bool} {c1 c2 c3 c4 : UInt8} (h : b.l.length + 4 ≤ tooLong) : apV hp e 1 1 false (b.av e) (.slice (.own f) e 1 [.int .u8 (c1.toNat : Int), .int .u8 (c2.toNat : Int), .int .u8 (c3.toNat : Int), .int .u8 (c4.toNat : Int)]) = some ((b.app [c1, c2, c3, c4]).av e) := apV_bytes b (.lit f _ _ rfl) h
theorem apV_lit {f g : Bool} {xs : List AV} {l m : List UInt8} (hx : xs = byteCells m) (h : l.length + m.length ≤ tooLong) : apV hp e 1 1 false (.slice (.own g) e 1 (byteCells l)) (.slice (.own f) e 1 xs) = some (.slice (.own g) e 1 (byteCells (l ++ m))) := apV_bytes (.own g l) (.lit f xs m hx) h
end

theorem u8_wrap (n : Int) : IntKind.u8.wrap n = ((byteOf n).toNat : Int) := by
  simp [IntKind.wrap, IntKind.signed, IntKind.bits, byteOf]; omega
@[simp] theorem toInt_u8 (b : UInt8) : UInt8.ofNat ((b.toNat : Int).toNat) = b := by simp
end Go.Proofs.YtdnfnobgeddbfaaDoor.Abs

/- Numbers read from bytes, the lowest byte first. -/
namespace Go.Proofs.YtdnfnobgeddbfaaDoor.Abs
set_option linter.all false
set_option linter.unusedVariables false

/-- Four bytes as a number with a sign, the lowest first. -/
def rd32 (a b c d : UInt8) : Int := IntKind.i32.wrap (a.toNat + 256 * b.toNat + 65536 * c.toNat + 16777216 * d.toNat)

theorem i32_wrap (n : Int) : IntKind.i32.wrap n = if n % 4294967296 ≥ 2147483648 then n % 4294967296 - 4294967296 else n % 4294967296 := by
  simp [IntKind.wrap, IntKind.signed, IntKind.bits]
theorem ofInt_wrap32 (n : Int) : BitVec.ofInt 32 (IntKind.i32.wrap n) = BitVec.ofInt 32 n := by
  apply BitVec.eq_of_toInt_eq
  rw [i32_wrap]; simp only [BitVec.toInt_ofInt]
  split <;> simp only [Int.bmod] <;> omega
theorem or_i32 (x : Nat) (c : Nat) (k : Nat) (hx : x < 2 ^ k) (hc : c < 256) (hk : k ≤ 24) :
    orI .i32 (IntKind.i32.wrap (x : Int)) (IntKind.i32.wrap ((c : Int) * 2 ^ k)) = IntKind.i32.wrap ((x : Int) + c * 2 ^ k) := by
  show IntKind.i32.wrap ((BitVec.ofInt 32 (IntKind.i32.wrap (x : Int)) ||| BitVec.ofInt 32 (IntKind.i32.wrap ((c : Int) * 2 ^ k))).toNat : Int) = _
  rw [ofInt_wrap32, ofInt_wrap32]
  have e1 : ((c : Int) * 2 ^ k) = ((c <<< k : Nat) : Int) := by rw [Nat.shiftLeft_eq]; simp
  rw [e1]
  simp only [BitVec.ofInt_natCast]
  have e2 : x ||| (c <<< k) = c <<< k + x := by rw [Nat.or_comm, Nat.shiftLeft_add_eq_or_of_lt hx]
  have hk2 : 2 ^ k ≤ 2 ^ 24 := Nat.pow_le_pow_right (by omega) hk
  have h1 : x < 2 ^ 32 := by omega
  have h2 : c <<< k < 2 ^ 32 := by
    rw [Nat.shiftLeft_eq]
    calc c * 2 ^ k ≤ c * 2 ^ 24 := Nat.mul_le_mul_left _ hk2
      _ < 2 ^ 32 := by omega
  rw [BitVec.toNat_or, BitVec.toNat_ofNat, BitVec.toNat_ofNat, Nat.mod_eq_of_lt h1, Nat.mod_eq_of_lt h2, e2]
  congr 1; omega

/-- A row's part. -/
theorem sl_b {hp : H} {e : Nat} {l : List UInt8} {i j : Int} (h0 : 0 ≤ i) (h1 : i ≤ j) (h2 : j ≤ l.length) : slSl hp 1 (bAV e (some l)) (some i) (some j) = some (bAV e (some ((l.drop i.toNat).take (j.toNat - i.toNat)))) := by
  simp [slSl, bAV, byteCells, h0, h1, h2, List.map_take, List.map_drop]

/-! ### The law's plain part -/
theorem byteOf_toNat (n : Int) : ((byteOf n).toNat : Int) = n % 256 := by
  unfold byteOf; rw [UInt8.toNat_ofNat']; omega
theorem rd32_le32 {n : Int} (h0 : -2147483648 ≤ n) (h1 : n < 2147483648) : rd32 (byteOf n) (byteOf (n / 256)) (byteOf (n / 65536)) (byteOf (n / 16777216)) = n := by
  unfold rd32
  rw [byteOf_toNat, byteOf_toNat, byteOf_toNat, byteOf_toNat, i32_wrap]
  omega


/-! ### Numbers of 64 bits -/
def rd64 (a b c d e f g h : UInt8) : Int := IntKind.i64.wrap (a.toNat + 2 ^ 8 * b.toNat + 2 ^ 16 * c.toNat + 2 ^ 24 * d.toNat + 2 ^ 32 * e.toNat + 2 ^ 40 * f.toNat + 2 ^ 48 * g.toNat + 2 ^ 56 * h.toNat)
theorem i64_wrap (n : Int) : IntKind.i64.wrap n = if n % 18446744073709551616 ≥ 9223372036854775808 then n % 18446744073709551616 - 18446744073709551616 else n % 18446744073709551616 := by
  simp [IntKind.wrap, IntKind.signed, IntKind.bits]
theorem ofInt_wrap64 (n : Int) : BitVec.ofInt 64 (IntKind.i64.wrap n) = BitVec.ofInt 64 n := by
  apply BitVec.eq_of_toInt_eq
  rw [i64_wrap]; simp only [BitVec.toInt_ofInt]
  split <;> simp only [Int.bmod] <;> omega
theorem or_i64 (x : Nat) (c : Nat) (k : Nat) (hx : x < 2 ^ k) (hc : c < 256) (hk : k ≤ 56) :
    orI .i64 (IntKind.i64.wrap (x : Int)) (IntKind.i64.wrap ((c : Int) * 2 ^ k)) = IntKind.i64.wrap ((x : Int) + c * 2 ^ k) := by
  show IntKind.i64.wrap ((BitVec.ofInt 64 (IntKind.i64.wrap (x : Int)) ||| BitVec.ofInt 64 (IntKind.i64.wrap ((c : Int) * 2 ^ k))).toNat : Int) = _
  rw [ofInt_wrap64, ofInt_wrap64]
  have e1 : ((c : Int) * 2 ^ k) = ((c <<< k : Nat) : Int) := by rw [Nat.shiftLeft_eq]; simp
  rw [e1]
  simp only [BitVec.ofInt_natCast]
  have e2 : x ||| (c <<< k) = c <<< k + x := by rw [Nat.or_comm, Nat.shiftLeft_add_eq_or_of_lt hx]
  have hk2 : 2 ^ k ≤ 2 ^ 56 := Nat.pow_le_pow_right (by omega) hk
  have h1 : x < 2 ^ 64 := by omega
  have h2 : c <<< k < 2 ^ 64 := by
    rw [Nat.shiftLeft_eq]
    calc c * 2 ^ k ≤ c * 2 ^ 56 := Nat.mul_le_mul_left _ hk2
      _ < 2 ^ 64 := by omega
  rw [BitVec.toNat_or, BitVec.toNat_ofNat, BitVec.toNat_ofNat, Nat.mod_eq_of_lt h1, Nat.mod_eq_of_lt h2, e2]
  congr 1; omega
theorem rd64_le64 {n : Int} (h0 : -9223372036854775808 ≤ n) (h1 : n ≤ 9223372036854775807) :
    rd64 (byteOf n) (byteOf (n / 2 ^ 8)) (byteOf (n / 2 ^ 16)) (byteOf (n / 2 ^ 24)) (byteOf (n / 2 ^ 32)) (byteOf (n / 2 ^ 40)) (byteOf (n / 2 ^ 48)) (byteOf (n / 2 ^ 56)) = n := by
  unfold rd64
  simp only [byteOf_toNat]
  rw [i64_wrap]
  omega

/-! ### Few, right and short -/
/-- What a value's size is bounded by. -/
def Tr.sz (v : Tr) : Nat := v.nb + 18 * v.nodes
def Ks.sz (ks : Ks) : Nat := ks.nb + 18 * ks.nodes
def Tr.fine (v : Tr) (c b : Nat) : Bool := decide (v.count c ≤ c) && (v.right 200 && decide (IntKind.i64.wrap v.nb ≤ b))
/-- A document of elements. -/
def Ks.tr (ks : Ks) (kn : Bool) : Tr := .mk 3 [] [] 0 0 0 none kn ks
/-- What is few, right and short is not long. -/
theorem fine_sz {v : Tr} {c b : Nat} (hc : c ≤ 1000) (hW : v.wf) (h : v.fine c b = true) : v.sz ≤ b + 18 * c ∧ v.right 200 = true ∧ v.nodes ≤ c ∧ v.nb ≤ b := by
  simp only [Tr.fine, Bool.and_eq_true, decide_eq_true_eq] at h
  obtain ⟨h1, h0, h3⟩ := h
  have h2 := Tr.count_all v c (by omega) h1
  rw [h2] at h1
  have hle := Tr.nb_le v hW
  simp only [reachBytes] at hle
  rw [wrap_i64 (by omega) (by
    have : v.nodes ≤ 1000 := by omega
    have : 562949953404928 * v.nodes ≤ 562949953404928 * 1000 := Nat.mul_le_mul_left _ this
    omega)] at h3
  unfold Tr.sz
  refine ⟨by omega, h0, by omega, by omega⟩
theorem fine_szK {ks : Ks} {kn : Bool} (hl : ks.len ≤ reachBytes) (hW : ks.wf) (h : (ks.tr kn).fine 300 5000 = true) : ks.sz ≤ 11000 := by
  have := (fine_sz (by omega) (by simp [Ks.tr, Tr.wf, bl, hl, hW, IntKind.min, IntKind.max, IntKind.signed, IntKind.bits]) h).1
  simp only [Tr.sz, Ks.tr, Tr.nb, Tr.nodes] at this
  unfold Ks.sz; omega
end Go.Proofs.YtdnfnobgeddbfaaDoor.Abs
