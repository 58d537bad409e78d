/- Rows of bytes that are appended to. -/
import Derived.Test.YtdnfnobgeddbfaaDoorTR1
namespace Go.Proofs.YtdnfnobgeddbfaaDoor.Abs
set_option linter.all false
set_option linter.unusedVariables false

inductive BS where
  | nil
  | own (f : Bool) (l : List UInt8)

def BS.av (e : Nat) : BS → AV
  | .nil => .slice .nil 0 1 []
  | .own f l => .slice (.own f) e 1 (byteCells l)
/-- What stays where it was taken: the header. -/
def BS.lv (e : Nat) : BS → AV
  | .nil => .slice .nil 0 1 []
  | .own f l => .slice .hdr e 1 (byteCells l)
def BS.opt : BS → Option (List UInt8)
  | .nil => none
  | .own _ l => some l
def BS.sh : BS → BS
  | .nil => .nil
  | .own _ l => .own false l
def BS.l : BS → List UInt8
  | .nil => []
  | .own _ l => l
def BS.app : BS → List UInt8 → BS
  | .nil, [] => .nil
  | .nil, l => .own true l
  | .own f l, m => .own f (l ++ m)
/-- A new row. -/
def BS.mk (l : List UInt8) : BS := BS.nil.app l

theorem BS.l_app (b : BS) (m : List UInt8) : (b.app m).l = b.l ++ m := by cases b <;> cases m <;> simp [BS.app, BS.l]
@[simp] theorem BS.bl_opt (b : BS) : bl b.opt = b.l := by cases b <;> rfl
@[simp] theorem BS.l_mk (m : List UInt8) : (BS.mk m).l = m := by cases m <;> rfl
theorem BS.app_app (b : BS) (m k : List UInt8) : (b.app m).app k = b.app (m ++ k) := by
  cases b <;> cases m <;> cases k <;> simp [BS.app]
theorem BS.mk_app (m k : List UInt8) : (BS.mk m).app k = BS.mk (m ++ k) := BS.app_app _ _ _
theorem BS.nil_app (m : List UInt8) : BS.nil.app m = BS.mk m := rfl
@[simp] theorem BS.sh_l (b : BS) : b.sh.l = b.l := by cases b <;> rfl
@[simp] theorem BS.opt_sh (b : BS) : b.sh.opt = b.opt := by cases b <;> rfl

section
variable (e : Nat) (b : BS)
@[simp] theorem BS.av_gv : gvV (b.av e) = bAV e b.opt := by cases b <;> rfl
@[simp] theorem BS.av_hd : hdV (b.av e) = b.lv e := by cases b <;> rfl
@[simp] theorem BS.av_lf : lfV (b.av e) = b.lv e := by cases b <;> rfl
@[simp] theorem BS.av_left : (b.av e).cls .left = b.lv e := by cases b <;> rfl
@[simp] theorem BS.av_cpV_take : cpV .take (b.av e) = b.av e := by cases b <;> rfl
@[simp] theorem BS.av_cpS_take : cpS .take (b.av e) = b.lv e := by cases b <;> rfl
@[simp] theorem BS.av_cpV_look : cpV .look (b.av e) = bAV e b.opt := by cases b <;> rfl
@[simp] theorem BS.av_cpS_look : cpS .look (b.av e) = b.sh.av e := by cases b <;> rfl
@[simp] theorem BS.av_cpV_head : cpV .head (b.av e) = b.lv e := by cases b <;> rfl
@[simp] theorem BS.av_cpS_head : cpS .head (b.av e) = b.av e := by cases b <;> rfl
@[simp] theorem BS.av_plain : (b.av e).plain = true := by cases b <;> rfl
@[simp] theorem BS.av_cells : (b.av e).cells = [b.av e] := by cases b <;> rfl
@[simp] theorem BS.av_several : (b.av e).several = false := by cases b <;> rfl
@[simp] theorem BS.av_kill (t : Nat) : (b.av e).kill t = b.av e := by cases b <;> rfl
@[simp] theorem BS.av_len : aLen false (b.av e) = some (.int .i64 b.l.length) := by cases b <;> simp [BS.av, BS.l, byteCells]
@[simp] theorem BS.av_lenV : lenV (b.av e) = some (b.l.length : Int) := by cases b <;> simp [BS.av, BS.l, byteCells]
@[simp] theorem BS.lv_gv : gvV (b.lv e) = b.lv e := by cases b <;> rfl
@[simp] theorem BS.lv_hd : hdV (b.lv e) = b.lv e := by cases b <;> rfl
@[simp] theorem BS.lv_lf : lfV (b.lv e) = b.lv e := by cases b <;> rfl
@[simp] theorem BS.lv_left : (b.lv e).cls .left = b.lv e := by cases b <;> rfl
@[simp] theorem BS.lv_cpV (m : Mode) : cpV m (b.lv e) = b.lv e := by cases b <;> cases m <;> rfl
@[simp] theorem BS.lv_cpS (m : Mode) : cpS m (b.lv e) = b.lv e := by cases b <;> cases m <;> rfl
@[simp] theorem BS.lv_plain : (b.lv e).plain = true := by cases b <;> rfl
@[simp] theorem BS.lv_several : (b.lv e).several = false := by cases b <;> rfl
@[simp] theorem BS.lv_kill (t : Nat) : (b.lv e).kill t = b.lv e := by cases b <;> rfl
@[simp] theorem BS.lv_len : aLen false (b.lv e) = some (.int .i64 b.l.length) := by cases b <;> simp [BS.lv, BS.l, byteCells]
@[simp] theorem BS.lv_lenV : lenV (b.lv e) = some (b.l.length : Int) := by cases b <;> simp [BS.lv, BS.l, byteCells]
theorem BS.av_nil : BS.nil.av e = AV.slice .nil 0 1 [] := rfl
theorem BS.nil_av : AV.slice .nil 0 1 [] = BS.nil.av e := rfl
end

/-- Appended: what a row of bytes may be. -/
inductive Bytes (e : Nat) : AV → List UInt8 → Prop
  | b (o : Option (List UInt8)) : Bytes e (bAV e o) (bl o)
  | s (b : BS) : Bytes e (b.av e) b.l
  | lit (f : Bool) (xs : List AV) (l : List UInt8) (h : xs = byteCells l) : Bytes e (.slice (.own f) e 1 xs) l

theorem apV_bytes {hp : H} {e : Nat} (b : BS) {x : AV} {ys : List UInt8} (hx : Bytes e x ys) (h : b.l.length + ys.length ≤ tooLong) : apV hp e 1 1 false (b.av e) x = some ((b.app ys).av e) := by
  have hm : moreV hp 1 false x = some (byteCells ys) := by
    cases hx with
    | b o => cases o <;> simp [bAV, moreV, bl, byteCells]
    | s b => cases b <;> simp [BS.av, moreV, BS.l, byteCells]
    | lit f xs l h => subst h; simp [moreV]
  cases b with
  | nil =>
    simp only [BS.l, List.length_nil, Nat.zero_add] at h
    cases ys with
    | nil => simp [apV, BS.av, hm, BS.app, byteCells, tooLong]
    | cons c ys => simp [apV, BS.av, hm, BS.app, byteCells] at h ⊢; simp [tooLong] at h ⊢; omega
  | own f l =>
    simp only [BS.l] at h
    simp [apV, BS.av, hm, BS.app, byteCells_append]
    omega
theorem apV_str {hp : H} {e : Nat} (b : BS) (s : List UInt8) (h : b.l.length + s.length ≤ tooLong) : apV hp e 1 1 true (b.av e) (.str s) = some ((b.app s).av e) := by
  cases b with
  | nil =>
    simp only [BS.l, List.length_nil, Nat.zero_add] at h
    cases s with
    | nil => simp [apV, BS.av, moreV, BS.app, byteCells, tooLong]
    | cons c s => simp [apV, BS.av, moreV, BS.app, byteCells] at h ⊢; simp [tooLong] at h ⊢; omega
  | own f l =>
    simp only [BS.l] at h
    simp [apV, BS.av, moreV, BS.app, byteCells_append]
    omega

section
variable {hp : H} {e : Nat} {b : BS}
theorem apV_b {o : Option (List UInt8)} (h : b.l.length + (bl o).length ≤ tooLong) : apV hp e 1 1 false (b.av e) (bAV e o) = some ((b.app (bl o)).av e) := apV_bytes b (.b o) h
theorem apV_s {c : BS} (h : b.l.length + c.l.length ≤ tooLong) : apV hp e 1 1 false (b.av e) (c.av e) = some ((b.app c.l).av e) := apV_bytes b (.s c) h
theorem apV_l1 {f : Bool} {c : UInt8} (h : b.l.length + 1 ≤ tooLong) : apV hp e 1 1 false (b.av e) (.slice (.own f) e 1 [.int .u8 (c.toNat : Int)]) = some ((b.app [c]).av e) := apV_bytes b (.lit f _ _ rfl) h
theorem apV_l0 {f : Bool} (h : b.l.length + 1 ≤ tooLong) : apV hp e 1 1 false (b.av e) (.slice (.own f) e 1 [.int .u8 0]) = some ((b.app [0]).av e) := apV_bytes b (.lit f _ _ rfl) h
theorem apV_l2 {f : Bool} (h : b.l.length + 1 ≤ tooLong) : apV hp e 1 1 false (b.av e) (.slice (.own f) e 1 [.int .u8 2]) = some ((b.app [2]).av e) := apV_bytes b (.lit f _ _ rfl) h
theorem apV_l4 {f : Bool} {c1 c2 c3 c4 : UInt8} (h : b.l.length + 4 ≤ tooLong) : apV hp e 1 1 false (b.av e) (.slice (.own f) e 1 [.int .u8 (c1.toNat : Int), .int .u8 (c2.toNat : Int), .int .u8 (c3.toNat : Int), .int .u8 (c4.toNat : Int)]) = some ((b.app [c1, c2, c3, c4]).av e) := apV_bytes b (.lit f _ _ rfl) h
theorem apV_lit {f g : Bool} {xs : List AV} {l m : List UInt8} (hx : xs = byteCells m) (h : l.length + m.length ≤ tooLong) : apV hp e 1 1 false (.slice (.own g) e 1 (byteCells l)) (.slice (.own f) e 1 xs) = some (.slice (.own g) e 1 (byteCells (l ++ m))) := apV_bytes (.own g l) (.lit f xs m hx) h
end

theorem u8_wrap (n : Int) : IntKind.u8.wrap n = ((byteOf n).toNat : Int) := by
  simp [IntKind.wrap, IntKind.signed, IntKind.bits, byteOf]; omega
@[simp] theorem toInt_u8 (b : UInt8) : UInt8.ofNat ((b.toNat : Int).toNat) = b := by simp
end Go.Proofs.YtdnfnobgeddbfaaDoor.Abs
