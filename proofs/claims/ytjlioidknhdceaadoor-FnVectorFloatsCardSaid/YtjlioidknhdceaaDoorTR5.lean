/- Rows of anything that are appended to. -/
import Derived.Test.YtjlioidknhdceaaDoorTR4
namespace Go.Proofs.YtjlioidknhdceaaDoor.Abs
set_option linter.all false
set_option linter.unusedVariables false

inductive RS where
  | nil
  | own (f : Bool) (xs : List AV)
def RS.av (e sz : Nat) : RS → AV
  | .nil => .slice .nil 0 1 []
  | .own f xs => .slice (.own f) e sz xs
def RS.lv (e sz : Nat) : RS → AV
  | .nil => .slice .nil 0 1 []
  | .own f xs => .slice .hdr e sz xs
def RS.fv (e sz : Nat) : RS → AV
  | .nil => .slice .nil 0 1 []
  | .own f xs => .slice .frz e sz xs
def RS.sh : RS → RS
  | .nil => .nil
  | .own _ xs => .own false xs
def RS.l : RS → List AV
  | .nil => []
  | .own _ xs => xs
def RS.app : RS → List AV → RS
  | .nil, [] => .nil
  | .nil, l => .own true l
  | .own f l, m => .own f (l ++ m)
def RS.mk (l : List AV) : RS := RS.nil.app l

theorem RS.l_app (b : RS) (m : List AV) : (b.app m).l = b.l ++ m := by cases b <;> cases m <;> simp [RS.app, RS.l]
@[simp] theorem RS.l_mk (m : List AV) : (RS.mk m).l = m := by cases m <;> rfl
theorem RS.app_app (b : RS) (m k : List AV) : (b.app m).app k = b.app (m ++ k) := by cases b <;> cases m <;> cases k <;> simp [RS.app]
theorem RS.mk_app (m k : List AV) : (RS.mk m).app k = RS.mk (m ++ k) := RS.app_app _ _ _
section
variable (e sz : Nat) (b : RS)
@[simp] theorem RS.av_gv : gvV (b.av e sz) = b.fv e sz := by cases b <;> rfl
@[simp] theorem RS.av_lf : lfV (b.av e sz) = b.lv e sz := by cases b <;> rfl
@[simp] theorem RS.av_cpV_take : cpV .take (b.av e sz) = b.av e sz := by cases b <;> rfl
@[simp] theorem RS.av_cpS_take : cpS .take (b.av e sz) = b.lv e sz := by cases b <;> rfl
@[simp] theorem RS.av_cpV_look : cpV .look (b.av e sz) = b.fv e sz := by cases b <;> rfl
@[simp] theorem RS.av_cpS_look : cpS .look (b.av e sz) = b.sh.av e sz := by cases b <;> rfl
@[simp] theorem RS.av_plain : (b.av e sz).plain = true := by cases b <;> rfl
@[simp] theorem RS.av_cells : (b.av e sz).cells = [b.av e sz] := by cases b <;> rfl
@[simp] theorem RS.fv_gv : gvV (b.fv e sz) = b.fv e sz := by cases b <;> rfl
@[simp] theorem RS.fv_lf : lfV (b.fv e sz) = b.fv e sz := by cases b <;> rfl
@[simp] theorem RS.fv_left : (b.fv e sz).cls .left = b.fv e sz := by cases b <;> rfl
@[simp] theorem RS.fv_cpV (m : Mode) : cpV m (b.fv e sz) = b.fv e sz := by cases b <;> cases m <;> rfl
@[simp] theorem RS.fv_cpS (m : Mode) : cpS m (b.fv e sz) = b.fv e sz := by cases b <;> cases m <;> rfl
@[simp] theorem RS.fv_plain : (b.fv e sz).plain = true := by cases b <;> rfl
@[simp] theorem RS.fv_cells : (b.fv e sz).cells = [b.fv e sz] := by cases b <;> rfl
@[simp] theorem RS.fv_kill (t : Nat) : (b.fv e sz).kill t = b.fv e sz := by cases b <;> rfl
end
section
variable {e sz : Nat} {b : RS}
theorem RS.av_len {n : Nat} (hs : 0 < sz) (h : b.l.length = n * sz) : aLen false (b.av e sz) = some (.int .i64 n) := by
  cases b with
  | nil => have : n = 0 := by rcases Nat.mul_eq_zero.1 h.symm with h | h <;> omega
           subst this; simp [RS.av]
  | own f xs => simp only [RS.l] at h; simp only [RS.av, ev_len_slice, h, Nat.mul_div_cancel _ hs]
theorem RS.fv_len {n : Nat} (hs : 0 < sz) (h : b.l.length = n * sz) : aLen false (b.fv e sz) = some (.int .i64 n) := by
  cases b with
  | nil => have : n = 0 := by rcases Nat.mul_eq_zero.1 h.symm with h | h <;> omega
           subst this; simp [RS.fv]
  | own f xs => simp only [RS.l] at h; simp only [RS.fv, ev_len_slice, h, Nat.mul_div_cancel _ hs]
theorem RS.fv_ix {n k : Nat} (hs : 0 < sz) (h : b.l.length = n * sz) (hk : k < n) : ixV sz (b.fv e sz) (.int .i64 (k : Int)) = some (.eptr (b.l.drop (k * sz))) := by
  cases b with
  | nil =>
    simp only [RS.l, List.length_nil] at h
    have : 0 < n * sz := Nat.mul_pos (by omega) hs
    omega
  | own f xs =>
    simp only [RS.l] at h ⊢
    have h1 : xs.length / sz = n := by rw [h, Nat.mul_div_cancel _ hs]
    have hc : Cls.frz = .frz ∧ sz = sz ∧ (0 : Int) ≤ (k : Int) ∧ (k : Int) < ((xs.length / sz : Nat) : Int) := ⟨rfl, rfl, by omega, by rw [h1]; omega⟩
    show (if Cls.frz = .frz ∧ sz = sz ∧ (0 : Int) ≤ (k : Int) ∧ (k : Int) < ((xs.length / sz : Nat) : Int) then _ else none) = _
    rw [if_pos hc, Int.toNat_natCast]
theorem RS.apV {h : H} {by' : Nat} {f : Bool} {ys : List AV} (hb : ((b.l.length + ys.length) / sz) * by' ≤ tooLong) (hl : b.l.length + ys.length ≤ tooLong) :
    Abs.apV h e sz by' false (b.av e sz) (.slice (.own f) e sz ys) = some ((b.app ys).av e sz) := by
  cases b with
  | nil =>
    simp only [RS.l, List.length_nil, Nat.zero_add] at hb hl
    cases ys with
    | nil => simp [Abs.apV, RS.av, moreV, RS.app]
    | cons y ys => simp only [List.length_cons] at hb hl; simp [Abs.apV, RS.av, moreV, RS.app, hb, hl]
  | own g xs =>
    simp only [RS.l] at hb hl
    simp [Abs.apV, RS.av, moreV, RS.app, hb, hl]
end
def rowsC (e : Nat) (ls : List (List UInt8)) : List AV := ls.map fun l => bAV e (some l)
@[simp] theorem rowsC_cons (e : Nat) (l : List UInt8) (ls : List (List UInt8)) : rowsC e (l :: ls) = bAV e (some l) :: rowsC e ls := rfl
@[simp] theorem rowsC_nil (e : Nat) : rowsC e [] = [] := rfl
@[simp] theorem old_RSf (b e sz : Nat) (x : RS) : (x.fv e sz).old b = oldL b x.l := by cases x <;> simp [RS.fv, RS.l]
def Ks.elems : Ks → List (List UInt8)
  | .nil => []
  | .cons nm v r => elemL nm v :: r.elems
end Go.Proofs.YtjlioidknhdceaaDoor.Abs
