/- TR2, TR3, A28 -/
import Derived.Test.YtcodfehgnjplcaaGreatDoorTR1
/- Rows of bytes that are appended to. -/
namespace Go.Proofs.YtcodfehgnjplcaaGreatDoor.Abs
set_option linter.all false
set_option linter.unusedVariables false

inductive BS where
  | nil
  | own (f : Bool) (l : List UInt8)

def BS.av (e : Nat) : BS → AV
  | .nil => .slice .nil 0 1 []
  | .own f l => .slice (.own f) e 1 (byteCells l)
def BS.lv (e : Nat) : BS → AV
  | .nil => .slice .nil 0 1 []
  | .own f l => .slice .hdr e 1 (byteCells l)
def BS.opt : BS → Option (List UInt8)
  | .nil => none
  | .own _ l => some l
def BS.sh : BS → BS
  | .nil => .nil
  | .own _ l => .own false l
def BS.l : BS → List UInt8
  | .nil => []
  | .own _ l => l
def BS.app : BS → List UInt8 → BS
  | .nil, [] => .nil
  | .nil, l => .own true l
  | .own f l, m => .own f (l ++ m)
def BS.mk (l : List UInt8) : BS := BS.nil.app l

theorem BS.l_app (b : BS) (m : List UInt8) : (b.app m).l = b.l ++ m := by cases b <;> cases m <;> simp [BS.app, BS.l]
@[simp] theorem BS.bl_opt (b : BS) : bl b.opt = b.l := by cases b <;> rfl
@[simp] theorem BS.l_mk (m : List UInt8) : (BS.mk m).l = m := by cases m <;> rfl
theorem BS.app_app (b : BS) (m k : List UInt8) : (b.app m).app k = b.app (m ++ k) := by
  cases b <;> cases m <;> cases k <;> simp [BS.app]
theorem BS.mk_app (m k : List UInt8) : (BS.mk m).app k = BS.mk (m ++ k) := BS.app_app _ _ _
theorem BS.nil_app (m : List UInt8) : BS.nil.app m = BS.mk m := rfl
@[simp] theorem BS.sh_l (b : BS) : b.sh.l = b.l := by cases b <;> rfl
@[simp] theorem BS.opt_sh (b : BS) : b.sh.opt = b.opt := by cases b <;> rfl

section
variable (e : Nat) (b : BS)
@[simp] theorem BS.av_gv : gvV (b.av e) = bAV e b.opt := by cases b <;> rfl
@[simp] theorem BS.av_hd : hdV (b.av e) = b.lv e := by cases b <;> rfl
@[simp] theorem BS.av_lf : lfV (b.av e) = b.lv e := by cases b <;> rfl
@[simp] theorem BS.av_left : (b.av e).cls .left = b.lv e := by cases b <;> rfl
@[simp] theorem BS.av_cpV_take : cpV .take (b.av e) = b.av e := by cases b <;> rfl
@[simp] theorem BS.av_cpS_take : cpS .take (b.av e) = b.lv e := by cases b <;> rfl
@[simp] theorem BS.av_cpV_look : cpV .look (b.av e) = bAV e b.opt := by cases b <;> rfl
@[simp] theorem BS.av_cpS_look : cpS .look (b.av e) = b.sh.av e := by cases b <;> rfl
@[simp] theorem BS.av_cpV_head : cpV .head (b.av e) = b.lv e := by cases b <;> rfl
@[simp] theorem BS.av_cpS_head : cpS .head (b.av e) = b.av e := by cases b <;> rfl
@[simp] theorem BS.av_plain : (b.av e).plain = true := by cases b <;> rfl
@[simp] theorem BS.av_cells : (b.av e).cells = [b.av e] := by cases b <;> rfl
@[simp] theorem BS.av_several : (b.av e).several = false := by cases b <;> rfl
@[simp] theorem BS.av_kill (t : Nat) : (b.av e).kill t = b.av e := by cases b <;> rfl
@[simp] theorem BS.av_len : aLen false (b.av e) = some (.int .i64 b.l.length) := by cases b <;> simp [BS.av, BS.l, byteCells]
@[simp] theorem BS.av_lenV : lenV (b.av e) = some (b.l.length : Int) := by cases b <;> simp [BS.av, BS.l, byteCells]
@[simp] theorem BS.lv_gv : gvV (b.lv e) = b.lv e := by cases b <;> rfl
@[simp] theorem BS.lv_hd : hdV (b.lv e) = b.lv e := by cases b <;> rfl
@[simp] theorem BS.lv_lf : lfV (b.lv e) = b.lv e := by cases b <;> rfl
@[simp] theorem BS.lv_left : (b.lv e).cls .left = b.lv e := by cases b <;> rfl
@[simp] theorem BS.lv_cpV (m : Mode) : cpV m (b.lv e) = b.lv e := by cases b <;> cases m <;> rfl
@[simp] theorem BS.lv_cpS (m : Mode) : cpS m (b.lv e) = b.lv e := by cases b <;> cases m <;> rfl
@[simp] theorem BS.lv_plain : (b.lv e).plain = true := by cases b <;> rfl
@[simp] theorem BS.lv_several : (b.lv e).several = false := by cases b <;> rfl
@[simp] theorem BS.lv_kill (t : Nat) : (b.lv e).kill t = b.lv e := by cases b <;> rfl
@[simp] theorem BS.lv_len : aLen false (b.lv e) = some (.int .i64 b.l.length) := by cases b <;> simp [BS.lv, BS.l, byteCells]
@[simp] theorem BS.lv_lenV : lenV (b.lv e) = some (b.l.length : Int) := by cases b <;> simp [BS.lv, BS.l, byteCells]
theorem BS.av_nil : BS.nil.av e = AV.slice .nil 0 1 [] := rfl
theorem BS.nil_av : AV.slice .nil 0 1 [] = BS.nil.av e := rfl
end

inductive Bytes (e : Nat) : AV → List UInt8 → Prop
  | b (o : Option (List UInt8)) : Bytes e (bAV e o) (bl o)
  | s (b : BS) : Bytes e (b.av e) b.l
  | lit (f : Bool) (xs : List AV) (l : List UInt8) (h : xs = byteCells l) : Bytes e (.slice (.own f) e 1 xs) l

theorem apV_bytes {hp : H} {e : Nat} (b : BS) {x : AV} {ys : List UInt8} (hx : Bytes e x ys) (h : b.l.length + ys.length ≤ tooLong) : apV hp e 1 1 false (b.av e) x = some ((b.app ys).av e) := by
  have hm : moreV hp 1 false x = some (byteCells ys) := by
    cases hx with
    | b o => cases o <;> simp [bAV, moreV, bl, byteCells]
    | s b => cases b <;> simp [BS.av, moreV, BS.l, byteCells]
    | lit f xs l h => subst h; simp [moreV]
  cases b with
  | nil =>
    simp only [BS.l, List.length_nil, Nat.zero_add] at h
    cases ys with
    | nil => simp [apV, BS.av, hm, BS.app, byteCells, tooLong]
    | cons c ys => simp [apV, BS.av, hm, BS.app, byteCells] at h ⊢; simp [tooLong] at h ⊢; omega
  | own f l =>
    simp only [BS.l] at h
    simp [apV, BS.av, hm, BS.app, byteCells_append]
    omega
theorem apV_str {hp : H} {e : Nat} (b : BS) (s : List UInt8) (h : b.l.length + s.length ≤ tooLong) : apV hp e 1 1 true (b.av e) (.str s) = some ((b.app s).av e) := by
  cases b with
  | nil =>
    simp only [BS.l, List.length_nil, Nat.zero_add] at h
    cases s with
    | nil => simp [apV, BS.av, moreV, BS.app, byteCells, tooLong]
    | cons c s => simp [apV, BS.av, moreV, BS.app, byteCells] at h ⊢; simp [tooLong] at h ⊢; omega
  | own f l =>
    simp only [BS.l] at h
    simp [apV, BS.av, moreV, BS.app, byteCells_append]
    omega

section
variable {hp : H} {e : Nat} {b : BS}
theorem apV_b {o : Option (List UInt8)} (h : b.l.length + (bl o).length ≤ tooLong) : apV hp e 1 1 false (b.av e) (bAV e o) = some ((b.app (bl o)).av e) := apV_bytes b (.b o) h
theorem apV_s {c : BS} (h : b.l.length + c.l.length ≤ tooLong) : apV hp e 1 1 false (b.av e) (c.av e) = some ((b.app c.l).av e) := apV_bytes b (.s c) h
theorem apV_l1 {f : Bool} {c : UInt8} (h : b.l.length + 1 ≤ tooLong) : apV hp e 1 1 false (b.av e) (.slice (.own f) e 1 [.int .u8 (c.toNat : Int)]) = some ((b.app [c]).av e) := apV_bytes b (.lit f _ _ rfl) h
theorem apV_l0 {f : Bool} (h : b.l.length + 1 ≤ tooLong) : apV hp e 1 1 false (b.av e) (.slice (.own f) e 1 [.int .u8 0]) = some ((b.app [0]).av e) := apV_bytes b (.lit f _ _ rfl) h
theorem apV_l2 {f : Bool} (h : b.l.length + 1 ≤ tooLong) : apV hp e 1 1 false (b.av e) (.slice (.own f) e 1 [.int .u8 2]) = some ((b.app [2]).av e) := apV_bytes b (.lit f _ _ rfl) h
theorem apV_l4 {f : Bool} {c1 c2 c3 c4 : UInt8} (h : b.l.length + 4 ≤ tooLong) : apV hp e 1 1 false (b.av e) (.slice (.own f) e 1 [.int .u8 (c1.toNat : Int), .int .u8 (c2.toNat : Int), .int .u8 (c3.toNat : Int), .int .u8 (c4.toNat : Int)]) = some ((b.app [c1, c2, c3, c4]).av e) := apV_bytes b (.lit f _ _ rfl) h
theorem apV_lit {f g : Bool} {xs : List AV} {l m : List UInt8} (hx : xs = byteCells m) (h : l.length + m.length ≤ tooLong) : apV hp e 1 1 false (.slice (.own g) e 1 (byteCells l)) (.slice (.own f) e 1 xs) = some (.slice (.own g) e 1 (byteCells (l ++ m))) := apV_bytes (.own g l) (.lit f xs m hx) h
end

theorem u8_wrap (n : Int) : IntKind.u8.wrap n = ((byteOf n).toNat : Int) := by
  simp [IntKind.wrap, IntKind.signed, IntKind.bits, byteOf]; omega
@[simp] theorem toInt_u8 (b : UInt8) : UInt8.ofNat ((b.toNat : Int).toNat) = b := by simp
end Go.Proofs.YtcodfehgnjplcaaGreatDoor.Abs

/- Numbers read from bytes, the lowest byte first. -/
namespace Go.Proofs.YtcodfehgnjplcaaGreatDoor.Abs
set_option linter.all false
set_option linter.unusedVariables false

def rd32 (a b c d : UInt8) : Int := IntKind.i32.wrap (a.toNat + 256 * b.toNat + 65536 * c.toNat + 16777216 * d.toNat)

theorem i32_wrap (n : Int) : IntKind.i32.wrap n = if n % 4294967296 ≥ 2147483648 then n % 4294967296 - 4294967296 else n % 4294967296 := by
  simp [IntKind.wrap, IntKind.signed, IntKind.bits]
theorem ofInt_wrap32 (n : Int) : BitVec.ofInt 32 (IntKind.i32.wrap n) = BitVec.ofInt 32 n := by
  apply BitVec.eq_of_toInt_eq
  rw [i32_wrap]; simp only [BitVec.toInt_ofInt]
  split <;> simp only [Int.bmod] <;> omega
theorem or_i32 (x : Nat) (c : Nat) (k : Nat) (hx : x < 2 ^ k) (hc : c < 256) (hk : k ≤ 24) :
    orI .i32 (IntKind.i32.wrap (x : Int)) (IntKind.i32.wrap ((c : Int) * 2 ^ k)) = IntKind.i32.wrap ((x : Int) + c * 2 ^ k) := by
  show IntKind.i32.wrap ((BitVec.ofInt 32 (IntKind.i32.wrap (x : Int)) ||| BitVec.ofInt 32 (IntKind.i32.wrap ((c : Int) * 2 ^ k))).toNat : Int) = _
  rw [ofInt_wrap32, ofInt_wrap32]
  have e1 : ((c : Int) * 2 ^ k) = ((c <<< k : Nat) : Int) := by rw [Nat.shiftLeft_eq]; simp
  rw [e1]
  simp only [BitVec.ofInt_natCast]
  have e2 : x ||| (c <<< k) = c <<< k + x := by rw [Nat.or_comm, Nat.shiftLeft_add_eq_or_of_lt hx]
  have hk2 : 2 ^ k ≤ 2 ^ 24 := Nat.pow_le_pow_right (by omega) hk
  have h1 : x < 2 ^ 32 := by omega
  have h2 : c <<< k < 2 ^ 32 := by
    rw [Nat.shiftLeft_eq]
    calc c * 2 ^ k ≤ c * 2 ^ 24 := Nat.mul_le_mul_left _ hk2
      _ < 2 ^ 32 := by omega
  rw [BitVec.toNat_or, BitVec.toNat_ofNat, BitVec.toNat_ofNat, Nat.mod_eq_of_lt h1, Nat.mod_eq_of_lt h2, e2]
  congr 1; omega

theorem sl_b {hp : H} {e : Nat} {l : List UInt8} {i j : Int} (h0 : 0 ≤ i) (h1 : i ≤ j) (h2 : j ≤ l.length) : slSl hp 1 (bAV e (some l)) (some i) (some j) = some (bAV e (some ((l.drop i.toNat).take (j.toNat - i.toNat)))) := by
  simp [slSl, bAV, byteCells, h0, h1, h2, List.map_take, List.map_drop]

/-! ### The law's plain part -/
theorem byteOf_toNat (n : Int) : ((byteOf n).toNat : Int) = n % 256 := by
  unfold byteOf; rw [UInt8.toNat_ofNat']; omega
theorem rd32_le32 {n : Int} (h0 : -2147483648 ≤ n) (h1 : n < 2147483648) : rd32 (byteOf n) (byteOf (n / 256)) (byteOf (n / 65536)) (byteOf (n / 16777216)) = n := by
  unfold rd32
  rw [byteOf_toNat, byteOf_toNat, byteOf_toNat, byteOf_toNat, i32_wrap]
  omega


/-! ### Numbers of 64 bits -/
def rd64 (a b c d e f g h : UInt8) : Int := IntKind.i64.wrap (a.toNat + 2 ^ 8 * b.toNat + 2 ^ 16 * c.toNat + 2 ^ 24 * d.toNat + 2 ^ 32 * e.toNat + 2 ^ 40 * f.toNat + 2 ^ 48 * g.toNat + 2 ^ 56 * h.toNat)
theorem i64_wrap (n : Int) : IntKind.i64.wrap n = if n % 18446744073709551616 ≥ 9223372036854775808 then n % 18446744073709551616 - 18446744073709551616 else n % 18446744073709551616 := by
  simp [IntKind.wrap, IntKind.signed, IntKind.bits]
theorem ofInt_wrap64 (n : Int) : BitVec.ofInt 64 (IntKind.i64.wrap n) = BitVec.ofInt 64 n := by
  apply BitVec.eq_of_toInt_eq
  rw [i64_wrap]; simp only [BitVec.toInt_ofInt]
  split <;> simp only [Int.bmod] <;> omega
theorem or_i64 (x : Nat) (c : Nat) (k : Nat) (hx : x < 2 ^ k) (hc : c < 256) (hk : k ≤ 56) :
    orI .i64 (IntKind.i64.wrap (x : Int)) (IntKind.i64.wrap ((c : Int) * 2 ^ k)) = IntKind.i64.wrap ((x : Int) + c * 2 ^ k) := by
  show IntKind.i64.wrap ((BitVec.ofInt 64 (IntKind.i64.wrap (x : Int)) ||| BitVec.ofInt 64 (IntKind.i64.wrap ((c : Int) * 2 ^ k))).toNat : Int) = _
  rw [ofInt_wrap64, ofInt_wrap64]
  have e1 : ((c : Int) * 2 ^ k) = ((c <<< k : Nat) : Int) := by rw [Nat.shiftLeft_eq]; simp
  rw [e1]
  simp only [BitVec.ofInt_natCast]
  have e2 : x ||| (c <<< k) = c <<< k + x := by rw [Nat.or_comm, Nat.shiftLeft_add_eq_or_of_lt hx]
  have hk2 : 2 ^ k ≤ 2 ^ 56 := Nat.pow_le_pow_right (by omega) hk
  have h1 : x < 2 ^ 64 := by omega
  have h2 : c <<< k < 2 ^ 64 := by
    rw [Nat.shiftLeft_eq]
    calc c * 2 ^ k ≤ c * 2 ^ 56 := Nat.mul_le_mul_left _ hk2
      _ < 2 ^ 64 := by omega
  rw [BitVec.toNat_or, BitVec.toNat_ofNat, BitVec.toNat_ofNat, Nat.mod_eq_of_lt h1, Nat.mod_eq_of_lt h2, e2]
  congr 1; omega
theorem rd64_le64 {n : Int} (h0 : -9223372036854775808 ≤ n) (h1 : n ≤ 9223372036854775807) :
    rd64 (byteOf n) (byteOf (n / 2 ^ 8)) (byteOf (n / 2 ^ 16)) (byteOf (n / 2 ^ 24)) (byteOf (n / 2 ^ 32)) (byteOf (n / 2 ^ 40)) (byteOf (n / 2 ^ 48)) (byteOf (n / 2 ^ 56)) = n := by
  unfold rd64
  simp only [byteOf_toNat]
  rw [i64_wrap]
  omega

/-! ### Few, right and short -/
def Tr.sz (v : Tr) : Nat := v.nb + 18 * v.nodes
def Ks.sz (ks : Ks) : Nat := ks.nb + 18 * ks.nodes
def Tr.fine (v : Tr) (c b : Nat) : Bool := decide (v.count c ≤ c) && (v.right 200 && decide (IntKind.i64.wrap v.nb ≤ b))
def Ks.tr (ks : Ks) (kn : Bool) : Tr := .mk 3 [] [] 0 0 0 none kn ks
theorem fine_sz {v : Tr} {c b : Nat} (hc : c ≤ 1000) (hW : v.wf) (h : v.fine c b = true) : v.sz ≤ b + 18 * c ∧ v.right 200 = true ∧ v.nodes ≤ c ∧ v.nb ≤ b := by
  simp only [Tr.fine, Bool.and_eq_true, decide_eq_true_eq] at h
  obtain ⟨h1, h0, h3⟩ := h
  have h2 := Tr.count_all v c (by omega) h1
  rw [h2] at h1
  have hle := Tr.nb_le v hW
  simp only [reachBytes] at hle
  rw [wrap_i64 (by omega) (by
    have : v.nodes ≤ 1000 := by omega
    have : 562949953404928 * v.nodes ≤ 562949953404928 * 1000 := Nat.mul_le_mul_left _ this
    omega)] at h3
  unfold Tr.sz
  refine ⟨by omega, h0, by omega, by omega⟩
theorem fine_szK {ks : Ks} {kn : Bool} (hl : ks.len ≤ reachBytes) (hW : ks.wf) (h : (ks.tr kn).fine 300 5000 = true) : ks.sz ≤ 11000 := by
  have := (fine_sz (by omega) (by simp [Ks.tr, Tr.wf, bl, hl, hW, IntKind.min, IntKind.max, IntKind.signed, IntKind.bits]) h).1
  simp only [Tr.sz, Ks.tr, Tr.nb, Tr.nodes] at this
  unfold Ks.sz; omega
end Go.Proofs.YtcodfehgnjplcaaGreatDoor.Abs

/- The heap, for the simplifier: what is read of it, what is written; calls that are not handed it. -/
namespace Go.Proofs.YtcodfehgnjplcaaGreatDoor.Abs
set_option linter.all false
set_option linter.unusedVariables false

/-! ### What names no memory made later -/
@[simp] theorem old_bool (b : Nat) (x : Bool) : (AV.bool x).old b = true := by simp [AV.old]
@[simp] theorem old_int (b : Nat) (k : IntKind) (n : Int) : (AV.int k n).old b = true := by simp [AV.old]
@[simp] theorem old_str (b : Nat) (s : List UInt8) : (AV.str s).old b = true := by simp [AV.old]
@[simp] theorem old_flt (b : Nat) (k : FloatKind) (n : Nat) : (AV.flt k n).old b = true := by simp [AV.old]
@[simp] theorem old_nilptr (b : Nat) : (AV.nilptr).old b = true := by simp [AV.old]
@[simp] theorem old_nilI (b : Nat) : (AV.nilI).old b = true := by simp [AV.old]
@[simp] theorem old_fn (b f : Nat) : (AV.fn f).old b = true := by simp [AV.old]
@[simp] theorem old_gl (b g : Nat) : (AV.gl g).old b = true := by simp [AV.old]
@[simp] theorem old_nilfn (b : Nat) : (AV.nilfn).old b = true := by simp [AV.old]
@[simp] theorem old_iface (b : Nat) (t : TypeId) (v : AV) : (AV.iface t v).old b = v.old b := by simp [AV.old]
@[simp] theorem old_slice (b : Nat) (c : Cls) (e sz : Nat) (xs : List AV) : (AV.slice c e sz xs).old b = oldL b xs := by simp [AV.old]
@[simp] theorem old_agg (b : Nat) (xs : List AV) : (AV.agg xs).old b = oldL b xs := by simp [AV.old]
@[simp] theorem old_tup (b : Nat) (xs : List AV) : (AV.tup xs).old b = oldL b xs := by simp [AV.old]
@[simp] theorem old_eptr (b : Nat) (xs : List AV) : (AV.eptr xs).old b = oldL b xs := by simp [AV.old]
@[simp] theorem old_ptr (b i off : Nat) : (AV.ptr (.obj i) off).old b = decide (i < b) := by simp [AV.old]
@[simp] theorem old_hsl (b i k e sz n : Nat) : (AV.hsl i k e sz n).old b = decide (i < b) := by simp [AV.old]
@[simp] theorem oldL_nil (b : Nat) : oldL b [] = true := by simp [oldL]
@[simp] theorem oldL_cons (b : Nat) (x : AV) (xs : List AV) : oldL b (x :: xs) = (x.old b && oldL b xs) := by simp [oldL]
@[simp] theorem oldL_append (b : Nat) : ∀ (xs ys : List AV), oldL b (xs ++ ys) = (oldL b xs && oldL b ys)
  | [], ys => by simp
  | x :: xs, ys => by simp [oldL_append b xs ys, Bool.and_assoc]
@[simp] theorem oldL_bytes (b : Nat) : ∀ l : List UInt8, oldL b (byteCells l) = true
  | [] => by simp [byteCells]
  | c :: l => by simp [byteCells_cons, oldL_bytes b l]
@[simp] theorem old_bAV (b e : Nat) (o : Option (List UInt8)) : (bAV e o).old b = true := by cases o <;> simp [bAV]
@[simp] theorem old_BS (b e : Nat) (x : BS) : (x.av e).old b = true := by cases x <;> simp [BS.av]
@[simp] theorem old_BSl (b e : Nat) (x : BS) : (x.lv e).old b = true := by cases x <;> simp [BS.lv]
section
variable (b eB eE : Nat)
mutual
theorem old_Tr : ∀ v : Tr, oldL b (v.cells eB eE) = true
  | .mk k t m n bi hi bb kn ks => by simp [Tr.cells, old_Ks ks kn]
theorem old_Ks : ∀ (ks : Ks) (kn : Bool), (Ks.av eB eE ks kn).old b = true
  | .nil, kn => by cases kn <;> simp [Ks.av]
  | .cons nm v r, kn => by simp [Ks.av, old_Tr v, old_Kf r]
theorem old_Kf : ∀ ks : Ks, oldL b (ks.flat eB eE) = true
  | .nil => by simp [Ks.flat]
  | .cons nm v r => by simp [Ks.flat, old_Tr v, old_Kf r]
end
end
attribute [simp] old_Tr old_Ks old_Kf

/-! ### The heap -/
@[simp] theorem H.n_mask (h : H) : h.mask.n = h.n := by simp [H.mask, H.n]
@[simp] theorem H.mask_mask (h : H) : h.mask.mask = h.mask := by simp [H.mask, H.n]
@[simp] theorem H.Γ_mask (h : H) : h.mask.Γ = h.Γ := rfl
attribute [simp] H.n_push H.n_set H.n_del H.Γ_push H.Γ_set H.Γ_del
@[simp] theorem noHeap_mask (h : H) (v : AV) : noHeap h.n (v, h.mask) = some v := by simp [noHeap, H.mask]
@[simp] theorem noHeap_old {b : Nat} {v : AV} {h : H} (hv : v.old b = true) : noHeap b (v, h) = some v := by simp [noHeap, hv]
@[simp] theorem H.get_push_n (h : H) (o : Obj) : (h.push o).get h.n = some o := by rw [H.get_push, if_pos rfl]
theorem H.get_push_ne (h : H) (o : Obj) {i : Nat} (hi : i ≠ h.n) : (h.push o).get i = h.get i := by rw [H.get_push, if_neg hi]
theorem H.lt_of_get {h : H} {i : Nat} {o : Obj} (hi : h.get i = some o) : i < h.n := (H.get_lt hi).2
theorem H.get_push_old {h : H} {i : Nat} {o' : Obj} (hi : h.get i = some o') (o : Obj) : (h.push o).get i = some o' := by
  rw [H.get_push_ne h o (Nat.ne_of_lt (H.lt_of_get hi))]; exact hi
theorem H.get_set_same {h : H} {i : Nat} {x : Obj} (hx : h.get i = some x) (o : Obj) : (h.set i o).get i = some o := by rw [H.get_set hx, if_pos rfl]
theorem H.get_set_ne (h : H) (o : Obj) {i j : Nat} (hj : j ≠ i) : (h.set i o).get j = h.get j := by
  unfold H.set
  split
  · rfl
  · unfold H.get
    simp only
    split
    · rfl
    · rw [List.getElem?_set_ne (by omega)]
@[simp] theorem H.set_set (h : H) (i : Nat) (o o' : Obj) : (h.set i o).set i o' = h.set i o' := by
  unfold H.set
  split
  · rfl
  · simp
theorem H.set_get {h : H} {i : Nat} {o : Obj} (hx : h.get i = some o) : h.set i o = h := by
  obtain ⟨h1, h2⟩ := H.get_lt hx
  unfold H.set
  rw [if_neg (by omega)]
  unfold H.get at hx
  rw [if_neg (by omega)] at hx
  have : h.l.set (i - h.base) (some o) = h.l := by
    apply List.ext_getElem?
    intro j
    by_cases hj : i - h.base = j
    · subst hj
      rw [List.getElem?_set_self (by unfold H.n at h2; omega)]
      cases hh : h.l[i - h.base]? with
      | none => rw [hh] at hx; cases hx
      | some y => rw [hh] at hx; simp [Option.join] at hx; rw [hx]
    · rw [List.getElem?_set_ne hj]
  rw [this]
@[simp] theorem H.push_set_n (h : H) (o o' : Obj) : (h.push o).set h.n o' = h.push o' := by
  unfold H.push H.set H.n
  simp; omega
theorem H.push_set_old {h : H} {i : Nat} {x : Obj} (hi : h.get i = some x) (o o' : Obj) : (h.push o).set i o' = (h.set i o').push o := by
  obtain ⟨h1, h2⟩ := H.get_lt hi
  unfold H.n at h2
  unfold H.push H.set
  simp only [if_neg (show ¬ i < h.base by omega)]
  rw [List.set_append_left _ _ (by omega)]

structure H.Grown (h h' : H) : Prop where
  n : h.n ≤ h'.n
  get : ∀ i, i < h.n → h'.get i = h.get i
  Γ : h'.Γ = h.Γ
theorem H.Grown.refl (h : H) : H.Grown h h := ⟨Nat.le_refl _, fun _ _ => rfl, rfl⟩
theorem H.Grown.trans {a b c : H} (h : H.Grown a b) (k : H.Grown b c) : H.Grown a c := ⟨Nat.le_trans h.n k.n, fun i hi => (k.get i (Nat.lt_of_lt_of_le hi h.n)).trans (h.get i hi), k.Γ.trans h.Γ⟩
theorem H.Grown.push (h : H) (o : Obj) : H.Grown h (h.push o) := ⟨by simp, fun i hi => H.get_push_ne h o (Nat.ne_of_lt hi), rfl⟩
theorem H.Grown.some {h h' : H} (g : H.Grown h h') {i : Nat} {o : Obj} (hi : h.get i = .some o) : h'.get i = .some o := by rw [g.get i (H.lt_of_get hi)]; exact hi

/-! ### Operands whose row goes to the heap, comes back, is promised -/
def pinV (v : AV) (st : St) (n : Nat) : AV × St :=
  match v with
  | .slice (.own true) e sz xs => (.hsl st.h.n 0 e sz (xs.length / sz), ⟨upd st.s n (.hsl st.h.n 0 e sz (xs.length / sz)), st.b, st.h.push (.row e sz none xs)⟩)
  | v => (hdV v, st)
def unpinO (ob : Option Obj) (st : St) (n i k e sz m : Nat) : AV × St :=
  match ob with
  | some (.row e' sz' _ xs) => if k = 0 ∧ e' = e ∧ sz' = sz ∧ xs.length = m * sz then (.slice (.own true) e sz xs, ⟨upd st.s n (.slice .hdr e sz xs), st.b, st.h.del i⟩)
    else if k = 0 ∧ e' = e ∧ sz' = sz ∧ m * sz ≤ xs.length then (.slice (.own true) e sz (xs.take (m * sz)), ⟨upd st.s n (.slice .hdr e sz (xs.take (m * sz))), st.b, st.h.del i⟩) else (.hsl i k e sz m, st)
  | _ => (.hsl i k e sz m, st)
def takeU (v : AV) (st : St) (n : Nat) : AV × St :=
  match v with
  | .hsl i k e sz m => unpinO (st.h.get i) st n i k e sz m
  | v => (v, st.set n (lfV v))
def frzO (ob : Option Obj) (st : St) (n i k e sz m : Nat) : AV × St :=
  match ob with
  | some (.row _ _ _ xs) => if k + m * sz ≤ xs.length then (.slice .frz e sz ((xs.drop k).take (m * sz)), ⟨upd st.s n (.slice .frz e sz ((xs.drop k).take (m * sz))), st.b, st.h.set i (.ro xs)⟩) else (.hsl i k e sz m, st)
  | some (.ro xs) => if k + m * sz ≤ xs.length then (.slice .frz e sz ((xs.drop k).take (m * sz)), ⟨upd st.s n (.slice .frz e sz ((xs.drop k).take (m * sz))), st.b, st.h⟩) else (.hsl i k e sz m, st)
  | _ => (.hsl i k e sz m, st)
def giveF (v : AV) (st : St) (n : Nat) : AV × St :=
  match v with
  | .hsl i k e sz m => frzO (st.h.get i) st n i k e sz m
  | v => (gvV v, st.set n (gvV v))
section
variable {st : St} {n i k e sz m e' sz' : Nat} {cp : Option Nat} {xs : List AV} {c : Cls} {b : Bool} {ob : Option Obj}
@[simp] theorem ev_give_m : give st (.m n) = pinV (st.s n) st n := id rfl
@[simp] theorem ev_take_m : take st (.m n) = pinV (st.s n) st n := id rfl
@[simp] theorem ev_copy_m {md : Mode} : copy md st (.m n) = pinV (st.s n) st n := id rfl
@[simp] theorem ev_take_u : take st (.u n) = takeU (st.s n) st n := id rfl
@[simp] theorem ev_take_f : take st (.f n) = (st.s n, st.set n (lfV (st.s n))) := id rfl
@[simp] theorem ev_give_u : give st (.u n) = (gvV (st.s n), st.set n (gvV (st.s n))) := id rfl
@[simp] theorem ev_copy_u {md : Mode} : copy md st (.u n) = (cpV md (st.s n), st.set n (cpS md (st.s n))) := id rfl
@[simp] theorem ev_copy_f {md : Mode} : copy md st (.f n) = (cpV md (st.s n), st.set n (cpS md (st.s n))) := id rfl
@[simp] theorem ev_give_f : give st (.f n) = giveF (st.s n) st n := id rfl
@[simp] theorem ev_peek_m : peek st (.m n) = hdV (st.s n) := id rfl
@[simp] theorem ev_peek_u : peek st (.u n) = hdV (st.s n) := id rfl
@[simp] theorem ev_peek_f : peek st (.f n) = hdV (st.s n) := id rfl
@[simp] theorem pinV_own : pinV (.slice (.own true) e sz xs) st n = (.hsl st.h.n 0 e sz (xs.length / sz), ⟨upd st.s n (.hsl st.h.n 0 e sz (xs.length / sz)), st.b, st.h.push (.row e sz none xs)⟩) := id rfl
@[simp] theorem pinV_hsl : pinV (.hsl i k e sz m) st n = (.hsl i k e sz m, st) := id rfl
@[simp] theorem pinV_nil : pinV (.slice .nil e sz xs) st n = (.slice .nil e sz xs, st) := id rfl
@[simp] theorem takeU_hsl : takeU (.hsl i k e sz m) st n = unpinO (st.h.get i) st n i k e sz m := id rfl
@[simp] theorem takeU_slice : takeU (.slice c e sz xs) st n = (.slice c e sz xs, st.set n (lfV (.slice c e sz xs))) := id rfl
@[simp] theorem takeU_bool {x : Bool} : takeU (.bool x) st n = (.bool x, st.set n (.bool x)) := id rfl
@[simp] theorem takeU_int {kd : IntKind} {x : Int} : takeU (.int kd x) st n = (.int kd x, st.set n (.int kd x)) := id rfl
@[simp] theorem takeU_str {x : List UInt8} : takeU (.str x) st n = (.str x, st.set n (.str x)) := id rfl
@[simp] theorem takeU_flt {kd : FloatKind} {x : Nat} : takeU (.flt kd x) st n = (.flt kd x, st.set n (.flt kd x)) := id rfl
@[simp] theorem takeU_agg {x : List AV} : takeU (.agg x) st n = (.agg x, st.set n (.agg x)) := id rfl
@[simp] theorem takeU_ptr {kk : K} {x : Nat} : takeU (.ptr kk x) st n = (.ptr kk x, st.set n (.ptr kk x)) := id rfl
@[simp] theorem takeU_eptr {x : List AV} : takeU (.eptr x) st n = (.eptr x, st.set n (.eptr x)) := id rfl
@[simp] theorem takeU_nilptr : takeU .nilptr st n = (.nilptr, st.set n .nilptr) := id rfl
@[simp] theorem takeU_iface {t : TypeId} {v : AV} : takeU (.iface t v) st n = (.iface t v, st.set n (.iface t v)) := id rfl
@[simp] theorem takeU_nilI : takeU .nilI st n = (.nilI, st.set n .nilI) := id rfl
@[simp] theorem takeU_fn {f : FuncId} : takeU (.fn f) st n = (.fn f, st.set n (.fn f)) := id rfl
@[simp] theorem takeU_gl {g : Nat} : takeU (.gl g) st n = (.gl g, st.set n (.gl g)) := id rfl
@[simp] theorem takeU_nilfn : takeU .nilfn st n = (.nilfn, st.set n .nilfn) := id rfl
theorem takeU_b (e : Nat) (o : Option (List UInt8)) : takeU (bAV e o) st n = (bAV e o, st.set n (bAV e o)) := by cases o <;> rfl
theorem takeU_BS (e : Nat) (x : BS) : takeU (x.av e) st n = (x.av e, st.set n (x.lv e)) := by cases x <;> rfl
theorem takeU_BSl (e : Nat) (x : BS) : takeU (x.lv e) st n = (x.lv e, st.set n (x.lv e)) := by cases x <;> rfl
theorem takeU_Ks (eB eE : Nat) (ks : Ks) (kn : Bool) : takeU (Ks.av eB eE ks kn) st n = (Ks.av eB eE ks kn, st.set n (Ks.av eB eE ks kn)) := by
  rcases Ks.av_cases eB eE ks kn with ⟨_, _, h⟩ | h <;> rw [h] <;> rfl
@[simp] theorem unpinO_row : unpinO (some (.row e' sz' cp xs)) st n i k e sz m = if k = 0 ∧ e' = e ∧ sz' = sz ∧ xs.length = m * sz then (.slice (.own true) e sz xs, ⟨upd st.s n (.slice .hdr e sz xs), st.b, st.h.del i⟩)
    else if k = 0 ∧ e' = e ∧ sz' = sz ∧ m * sz ≤ xs.length then (.slice (.own true) e sz (xs.take (m * sz)), ⟨upd st.s n (.slice .hdr e sz (xs.take (m * sz))), st.b, st.h.del i⟩) else (.hsl i k e sz m, st) := id rfl
@[simp] theorem unpinO_cells : unpinO (some (.cells xs)) st n i k e sz m = (.hsl i k e sz m, st) := id rfl
@[simp] theorem unpinO_ro : unpinO (some (.ro xs)) st n i k e sz m = (.hsl i k e sz m, st) := id rfl
@[simp] theorem giveF_hsl : giveF (.hsl i k e sz m) st n = frzO (st.h.get i) st n i k e sz m := id rfl
@[simp] theorem giveF_slice : giveF (.slice c e sz xs) st n = (gvV (.slice c e sz xs), st.set n (gvV (.slice c e sz xs))) := id rfl
@[simp] theorem frzO_row : frzO (some (.row e' sz' cp xs)) st n i k e sz m = if k + m * sz ≤ xs.length then (.slice .frz e sz ((xs.drop k).take (m * sz)), ⟨upd st.s n (.slice .frz e sz ((xs.drop k).take (m * sz))), st.b, st.h.set i (.ro xs)⟩) else (.hsl i k e sz m, st) := id rfl
@[simp] theorem frzO_ro : frzO (some (.ro xs)) st n i k e sz m = if k + m * sz ≤ xs.length then (.slice .frz e sz ((xs.drop k).take (m * sz)), ⟨upd st.s n (.slice .frz e sz ((xs.drop k).take (m * sz))), st.b, st.h⟩) else (.hsl i k e sz m, st) := id rfl
end
attribute [simp] takeU_b takeU_BS takeU_BSl takeU_Ks
theorem shr_i64 (n : Int) (k : Nat) : n.fdiv (2 ^ k) = n / 2 ^ k := Int.fdiv_eq_ediv_of_nonneg _ (Int.le_of_lt (Int.pow_pos (by decide)))

@[simp] theorem ev_lenV_hsl (i k e sz n : Nat) : lenV (.hsl i k e sz n) = some (n : Int) := rfl
@[simp] theorem ev_len_hsl (i k e sz n : Nat) : aLen false (.hsl i k e sz n) = some (.int .i64 (n : Int)) := rfl
attribute [simp] Run_some' Option.elim_some
section
variable {m : Mode} {n off e sz : Nat} {cp : Option Nat} {cs : List AV} {v : AV}
@[simp] theorem ldO_cf : ldO m false n off (.cells cs) = (cs[off]?).map fun v => (cpV m v, .cells (splice cs off [cpS m v])) := id rfl
@[simp] theorem ldO_ct : ldO m true n off (.cells cs) = if off + n ≤ cs.length then some (.agg (((cs.drop off).take n).map gvV), .cells (splice cs off (((cs.drop off).take n).map gvV))) else none := id rfl
@[simp] theorem ldO_rf : ldO m false n off (.row e sz cp cs) = (cs[off]?).map fun v => (v, .row e sz cp cs) := id rfl
@[simp] theorem ldO_rt : ldO m true n off (.row e sz cp cs) = if off + n ≤ cs.length then some (.agg ((cs.drop off).take n), .row e sz cp cs) else none := id rfl
@[simp] theorem ldO_of : ldO m false n off (.ro cs) = (cs[off]?).map fun v => (v, .ro cs) := id rfl
@[simp] theorem ldO_ot : ldO m true n off (.ro cs) = if off + n ≤ cs.length then some (.agg ((cs.drop off).take n), .ro cs) else none := id rfl
@[simp] theorem stO_c : stO n off v (.cells cs) = if v.plain && v.cells.length == n && decide (off + n ≤ cs.length) then some (.cells (splice cs off v.cells)) else none := id rfl
@[simp] theorem stO_r : stO n off v (.row e sz cp cs) = if v.plain && !v.isOwn && v.cells.length == n && decide (off + n ≤ cs.length) then some (.row e sz cp (splice cs off v.cells)) else none := id rfl
end
@[simp] theorem bl_some (l : List UInt8) : bl (some l) = l := rfl
@[simp] theorem bl_none : bl none = [] := rfl
theorem BS.opt_own (f : Bool) (l : List UInt8) : (BS.own f l).opt = some l := rfl
/-! ### Bytes written into a row -/
def setL (l : List UInt8) (k : Nat) (ys : List UInt8) : List UInt8 := l.take k ++ ys ++ l.drop (k + ys.length)
theorem setL_length (l : List UInt8) (k : Nat) (ys : List UInt8) (h : k + ys.length ≤ l.length) : (setL l k ys).length = l.length := by simp [setL]; omega
theorem splice_bytes (l : List UInt8) (k : Nat) (ys : List UInt8) (xs : List AV) (hx : xs = byteCells ys) : splice (byteCells l) k xs = byteCells (setL l k ys) := by
  subst hx; simp [splice, setL, byteCells, List.map_take, List.map_drop]
theorem splice_byte (l : List UInt8) (k : Nat) (b : UInt8) : splice (byteCells l) k [.int .u8 (b.toNat : Int)] = byteCells (setL l k [b]) := splice_bytes l k [b] _ rfl
theorem byteCells_get (l : List UInt8) (k : Nat) (h : k < l.length) : (byteCells l)[k]? = some (.int .u8 (l[k].toNat : Int)) := by
  unfold byteCells; rw [List.getElem?_map, List.getElem?_eq_getElem h]; rfl
theorem setL_setL (l : List UInt8) (k : Nat) (ys zs : List UInt8) (h : k + ys.length + zs.length ≤ l.length) : setL (setL l k ys) (k + ys.length) zs = setL l k (ys ++ zs) := by
  have h1 : (l.take k).length = k := by simp; omega
  unfold setL
  have e1 : (l.take k ++ ys ++ l.drop (k + ys.length)).take (k + ys.length) = l.take k ++ ys := by
    rw [List.take_append_of_le_length (by simp; omega), List.take_of_length_le (by simp; omega)]
  have e2 : (l.take k ++ ys ++ l.drop (k + ys.length)).drop (k + ys.length + zs.length) = l.drop (k + (ys ++ zs).length) := by
    rw [List.drop_append, List.drop_of_length_le (by simp; omega)]
    have : k + ys.length + zs.length - (l.take k ++ ys).length = zs.length := by simp; omega
    rw [this, List.drop_drop]
    simp [Nat.add_assoc]
  rw [e1, e2]; simp
end Go.Proofs.YtcodfehgnjplcaaGreatDoor.Abs
