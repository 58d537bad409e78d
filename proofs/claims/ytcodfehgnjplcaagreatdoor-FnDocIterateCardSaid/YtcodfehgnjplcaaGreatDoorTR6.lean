/- TR4, TR5, TR6 -/
import Derived.Test.YtcodfehgnjplcaaGreatDoorA28
/- Texts read rune by rune: where there is no byte 0, no rune is 0. -/
namespace Go.Proofs.YtcodfehgnjplcaaGreatDoor.Abs
set_option linter.all false
set_option linter.unusedVariables false

theorem get!_list (l : List UInt8) (k : Nat) : (ByteArray.mk l.toArray).get! k = (l[k]?).getD 0 := by
  simp only [ByteArray.get!]
  rw [Array.getElem!_eq_getD, Array.getD_eq_getD_getElem?]
  simp [List.getElem?_toArray]; rfl

theorem decode_plain {l : List UInt8} {i : Nat} (hp : ∀ k (h : k < l.length), l[k] ≠ 0) (hi : i < l.length) :
    (Utf8.decode ⟨l.toArray⟩ i).1 ≠ 0 ∧ 1 ≤ (Utf8.decode ⟨l.toArray⟩ i).2 ∧ i + (Utf8.decode ⟨l.toArray⟩ i).2 ≤ l.length ∧ (Utf8.decode ⟨l.toArray⟩ i).1 ≤ 0x10FFFF := by
  unfold Utf8.decode
  simp only [get!_list]
  have hsz : (ByteArray.mk l.toArray).size = l.length := by simp [ByteArray.size]
  rw [hsz]
  have h0 : ((l[i + 0]?).getD 0).toNat ≠ 0 := by
    rw [Nat.add_zero, List.getElem?_eq_getElem hi, Option.getD_some]
    intro e; exact hp i hi (UInt8.toNat_inj.1 e)
  have b0 := ((l[i + 0]?).getD 0).toNat_lt
  have b1 := ((l[i + 1]?).getD 0).toNat_lt
  have b2 := ((l[i + 2]?).getD 0).toNat_lt
  have b3 := ((l[i + 3]?).getD 0).toNat_lt
  generalize ((l[i + 0]?).getD 0).toNat = c0 at *
  generalize ((l[i + 1]?).getD 0).toNat = c1 at *
  generalize ((l[i + 2]?).getD 0).toNat = c2 at *
  generalize ((l[i + 3]?).getD 0).toNat = c3 at *
  split
  · exact ⟨h0, by simp, by simp; omega, by simp; omega⟩
  · split
    · rename_i h1 h2
      simp only [Bool.and_eq_true, decide_eq_true_eq] at h2
      split <;> refine ⟨?_, by simp, ?_, ?_⟩ <;> simp [Utf8.runeError] <;> omega
    · split
      · rename_i h1 h2 h3
        simp only [Bool.and_eq_true, decide_eq_true_eq] at h3
        split
        · rename_i h4
          simp only [Bool.and_eq_true, decide_eq_true_eq] at h4
          refine ⟨?_, by simp, ?_, ?_⟩ <;> simp <;> omega
        · refine ⟨?_, by simp, ?_, ?_⟩ <;> simp [Utf8.runeError] <;> omega
      · split
        · rename_i h1 h2 h3 h4
          simp only [Bool.and_eq_true, decide_eq_true_eq] at h4
          split
          · rename_i h5
            simp only [Bool.and_eq_true, decide_eq_true_eq, Utf8.valid, Bool.or_eq_true] at h5
            refine ⟨?_, by simp, ?_, ?_⟩ <;> simp <;> omega
          · refine ⟨?_, by simp, ?_, ?_⟩ <;> simp [Utf8.runeError] <;> omega
        · refine ⟨?_, by simp, ?_, ?_⟩ <;> simp [Utf8.runeError] <;> omega

theorem plainL_spec : ∀ {l : List UInt8}, plainL l = true → ∀ k (h : k < l.length), l[k] ≠ 0 := by
  intro l
  induction l with
  | nil => intro _ k h; simp at h
  | cons c l ih =>
    intro h k hk
    simp only [plainL] at h
    split at h
    · cases h
    · rename_i hc
      cases k with
      | zero => simpa using hc
      | succ k => simpa using ih h k (by simpa using hk)

theorem iterNext_plain {l : List UInt8} {pos : Nat} (hp : plainL l = true) (hi : pos < l.length) :
    ∃ r w : Nat, iterNext l pos = (.tup [.bool true, .int .i64 pos, .int .i32 r], .iter l (pos + w)) ∧ r ≠ 0 ∧ 1 ≤ w ∧ pos + w ≤ l.length := by
  obtain ⟨h1, h2, h3, h4⟩ := decode_plain (plainL_spec hp) hi
  exact ⟨_, _, by unfold iterNext; rw [if_pos hi], h1, h2, h3⟩
theorem iterNext_end {l : List UInt8} {pos : Nat} (hi : l.length ≤ pos) : iterNext l pos = (.tup [.bool false], .iter l pos) := by
  unfold iterNext; rw [if_neg (by omega)]
theorem nextV_loc {st : St} {t : Nat} {s : List UInt8} {pos : Nat} (h : st.b t = some (.iter s pos)) : nextV (.ptr (.loc t) 0) st = some ((iterNext s pos).1, st.setAt (.loc t) (iterNext s pos).2) := by
  simp [nextV, h]
theorem nextV_obj {st : St} {i : Nat} {s : List UInt8} {pos : Nat} (h : st.h.get i = some (.iter s pos)) : nextV (.ptr (.obj i) 0) st = some ((iterNext s pos).1, st.setAt (.obj i) (iterNext s pos).2) := by
  simp [nextV, h]
end Go.Proofs.YtcodfehgnjplcaaGreatDoor.Abs

/- Rows of anything that are appended to. -/
namespace Go.Proofs.YtcodfehgnjplcaaGreatDoor.Abs
set_option linter.all false
set_option linter.unusedVariables false

inductive RS where
  | nil
  | own (f : Bool) (xs : List AV)
def RS.av (e sz : Nat) : RS → AV
  | .nil => .slice .nil 0 1 []
  | .own f xs => .slice (.own f) e sz xs
def RS.lv (e sz : Nat) : RS → AV
  | .nil => .slice .nil 0 1 []
  | .own f xs => .slice .hdr e sz xs
def RS.fv (e sz : Nat) : RS → AV
  | .nil => .slice .nil 0 1 []
  | .own f xs => .slice .frz e sz xs
def RS.sh : RS → RS
  | .nil => .nil
  | .own _ xs => .own false xs
def RS.l : RS → List AV
  | .nil => []
  | .own _ xs => xs
def RS.app : RS → List AV → RS
  | .nil, [] => .nil
  | .nil, l => .own true l
  | .own f l, m => .own f (l ++ m)
def RS.mk (l : List AV) : RS := RS.nil.app l

theorem RS.l_app (b : RS) (m : List AV) : (b.app m).l = b.l ++ m := by cases b <;> cases m <;> simp [RS.app, RS.l]
@[simp] theorem RS.l_mk (m : List AV) : (RS.mk m).l = m := by cases m <;> rfl
theorem RS.app_app (b : RS) (m k : List AV) : (b.app m).app k = b.app (m ++ k) := by cases b <;> cases m <;> cases k <;> simp [RS.app]
theorem RS.mk_app (m k : List AV) : (RS.mk m).app k = RS.mk (m ++ k) := RS.app_app _ _ _
theorem RS.nil_app (m : List AV) : RS.nil.app m = RS.mk m := rfl
@[simp] theorem RS.sh_l (b : RS) : b.sh.l = b.l := by cases b <;> rfl
section
variable (e sz : Nat) (b : RS)
@[simp] theorem RS.av_gv : gvV (b.av e sz) = b.fv e sz := by cases b <;> rfl
@[simp] theorem RS.av_hd : hdV (b.av e sz) = b.lv e sz := by cases b <;> rfl
@[simp] theorem RS.av_lf : lfV (b.av e sz) = b.lv e sz := by cases b <;> rfl
@[simp] theorem RS.av_left : (b.av e sz).cls .left = b.lv e sz := by cases b <;> rfl
@[simp] theorem RS.av_cpV_take : cpV .take (b.av e sz) = b.av e sz := by cases b <;> rfl
@[simp] theorem RS.av_cpS_take : cpS .take (b.av e sz) = b.lv e sz := by cases b <;> rfl
@[simp] theorem RS.av_cpV_look : cpV .look (b.av e sz) = b.fv e sz := by cases b <;> rfl
@[simp] theorem RS.av_cpS_look : cpS .look (b.av e sz) = b.sh.av e sz := by cases b <;> rfl
@[simp] theorem RS.av_cpV_head : cpV .head (b.av e sz) = b.lv e sz := by cases b <;> rfl
@[simp] theorem RS.av_cpS_head : cpS .head (b.av e sz) = b.av e sz := by cases b <;> rfl
@[simp] theorem RS.av_plain : (b.av e sz).plain = true := by cases b <;> rfl
@[simp] theorem RS.av_cells : (b.av e sz).cells = [b.av e sz] := by cases b <;> rfl
@[simp] theorem RS.av_several : (b.av e sz).several = false := by cases b <;> rfl
@[simp] theorem RS.av_kill (t : Nat) : (b.av e sz).kill t = b.av e sz := by cases b <;> rfl
@[simp] theorem RS.av_takeU {st : St} {n : Nat} : takeU (b.av e sz) st n = (b.av e sz, st.set n (b.lv e sz)) := by cases b <;> rfl
@[simp] theorem RS.lv_gv : gvV (b.lv e sz) = b.lv e sz := by cases b <;> rfl
@[simp] theorem RS.lv_hd : hdV (b.lv e sz) = b.lv e sz := by cases b <;> rfl
@[simp] theorem RS.lv_lf : lfV (b.lv e sz) = b.lv e sz := by cases b <;> rfl
@[simp] theorem RS.lv_left : (b.lv e sz).cls .left = b.lv e sz := by cases b <;> rfl
@[simp] theorem RS.lv_cpV (m : Mode) : cpV m (b.lv e sz) = b.lv e sz := by cases b <;> cases m <;> rfl
@[simp] theorem RS.lv_cpS (m : Mode) : cpS m (b.lv e sz) = b.lv e sz := by cases b <;> cases m <;> rfl
@[simp] theorem RS.lv_plain : (b.lv e sz).plain = true := by cases b <;> rfl
@[simp] theorem RS.lv_several : (b.lv e sz).several = false := by cases b <;> rfl
@[simp] theorem RS.lv_kill (t : Nat) : (b.lv e sz).kill t = b.lv e sz := by cases b <;> rfl
@[simp] theorem RS.lv_takeU {st : St} {n : Nat} : takeU (b.lv e sz) st n = (b.lv e sz, st.set n (b.lv e sz)) := by cases b <;> rfl
@[simp] theorem RS.fv_gv : gvV (b.fv e sz) = b.fv e sz := by cases b <;> rfl
@[simp] theorem RS.fv_hd : hdV (b.fv e sz) = b.fv e sz := by cases b <;> rfl
@[simp] theorem RS.fv_lf : lfV (b.fv e sz) = b.fv e sz := by cases b <;> rfl
@[simp] theorem RS.fv_left : (b.fv e sz).cls .left = b.fv e sz := by cases b <;> rfl
@[simp] theorem RS.fv_cpV (m : Mode) : cpV m (b.fv e sz) = b.fv e sz := by cases b <;> cases m <;> rfl
@[simp] theorem RS.fv_cpS (m : Mode) : cpS m (b.fv e sz) = b.fv e sz := by cases b <;> cases m <;> rfl
@[simp] theorem RS.fv_plain : (b.fv e sz).plain = true := by cases b <;> rfl
@[simp] theorem RS.fv_cells : (b.fv e sz).cells = [b.fv e sz] := by cases b <;> rfl
@[simp] theorem RS.fv_several : (b.fv e sz).several = false := by cases b <;> rfl
@[simp] theorem RS.fv_kill (t : Nat) : (b.fv e sz).kill t = b.fv e sz := by cases b <;> rfl
@[simp] theorem RS.fv_takeU {st : St} {n : Nat} : takeU (b.fv e sz) st n = (b.fv e sz, st.set n (b.fv e sz)) := by cases b <;> rfl
@[simp] theorem RS.sh_fv : b.sh.fv e sz = b.fv e sz := by cases b <;> rfl
@[simp] theorem RS.sh_lv : b.sh.lv e sz = b.lv e sz := by cases b <;> rfl
theorem RS.av_nil : RS.nil.av e sz = AV.slice .nil 0 1 [] := rfl
end
section
variable {e sz : Nat} {b : RS}
theorem RS.av_len {n : Nat} (hs : 0 < sz) (h : b.l.length = n * sz) : aLen false (b.av e sz) = some (.int .i64 n) := by
  cases b with
  | nil => have : n = 0 := by rcases Nat.mul_eq_zero.1 h.symm with h | h <;> omega
           subst this; simp [RS.av]
  | own f xs => simp only [RS.l] at h; simp only [RS.av, ev_len_slice, h, Nat.mul_div_cancel _ hs]
theorem RS.lv_len {n : Nat} (hs : 0 < sz) (h : b.l.length = n * sz) : aLen false (b.lv e sz) = some (.int .i64 n) := by
  cases b with
  | nil => have : n = 0 := by rcases Nat.mul_eq_zero.1 h.symm with h | h <;> omega
           subst this; simp [RS.lv]
  | own f xs => simp only [RS.l] at h; simp only [RS.lv, ev_len_slice, h, Nat.mul_div_cancel _ hs]
theorem RS.fv_len {n : Nat} (hs : 0 < sz) (h : b.l.length = n * sz) : aLen false (b.fv e sz) = some (.int .i64 n) := by
  cases b with
  | nil => have : n = 0 := by rcases Nat.mul_eq_zero.1 h.symm with h | h <;> omega
           subst this; simp [RS.fv]
  | own f xs => simp only [RS.l] at h; simp only [RS.fv, ev_len_slice, h, Nat.mul_div_cancel _ hs]
theorem RS.fv_ix {n k : Nat} (hs : 0 < sz) (h : b.l.length = n * sz) (hk : k < n) : ixV sz (b.fv e sz) (.int .i64 (k : Int)) = some (.eptr (b.l.drop (k * sz))) := by
  cases b with
  | nil =>
    simp only [RS.l, List.length_nil] at h
    have : 0 < n * sz := Nat.mul_pos (by omega) hs
    omega
  | own f xs =>
    simp only [RS.l] at h ⊢
    have h1 : xs.length / sz = n := by rw [h, Nat.mul_div_cancel _ hs]
    have hc : Cls.frz = .frz ∧ sz = sz ∧ (0 : Int) ≤ (k : Int) ∧ (k : Int) < ((xs.length / sz : Nat) : Int) := ⟨rfl, rfl, by omega, by rw [h1]; omega⟩
    show (if Cls.frz = .frz ∧ sz = sz ∧ (0 : Int) ≤ (k : Int) ∧ (k : Int) < ((xs.length / sz : Nat) : Int) then _ else none) = _
    rw [if_pos hc, Int.toNat_natCast]
theorem RS.apV {h : H} {by' : Nat} {f : Bool} {ys : List AV} (hb : ((b.l.length + ys.length) / sz) * by' ≤ tooLong) (hl : b.l.length + ys.length ≤ tooLong) :
    Abs.apV h e sz by' false (b.av e sz) (.slice (.own f) e sz ys) = some ((b.app ys).av e sz) := by
  cases b with
  | nil =>
    simp only [RS.l, List.length_nil, Nat.zero_add] at hb hl
    cases ys with
    | nil => simp [Abs.apV, RS.av, moreV, RS.app]
    | cons y ys => simp only [List.length_cons] at hb hl; simp [Abs.apV, RS.av, moreV, RS.app, hb, hl]
  | own g xs =>
    simp only [RS.l] at hb hl
    simp [Abs.apV, RS.av, moreV, RS.app, hb, hl]
end
def rowsC (e : Nat) (ls : List (List UInt8)) : List AV := ls.map fun l => bAV e (some l)
@[simp] theorem rowsC_length (e : Nat) (ls : List (List UInt8)) : (rowsC e ls).length = ls.length := by simp [rowsC]
theorem rowsC_append (e : Nat) (a b : List (List UInt8)) : rowsC e (a ++ b) = rowsC e a ++ rowsC e b := by simp [rowsC]
theorem rowsC_drop (e : Nat) (k : Nat) (a b : List (List UInt8)) (h : k = a.length) : (rowsC e (a ++ b)).drop k = rowsC e b := by
  subst h; simp [rowsC]
@[simp] theorem rowsC_cons (e : Nat) (l : List UInt8) (ls : List (List UInt8)) : rowsC e (l :: ls) = bAV e (some l) :: rowsC e ls := rfl
@[simp] theorem rowsC_nil (e : Nat) : rowsC e [] = [] := rfl
@[simp] theorem old_rowsC (b e : Nat) : ∀ ls : List (List UInt8), oldL b (rowsC e ls) = true
  | [] => by simp
  | l :: ls => by simp [old_rowsC b e ls]
@[simp] theorem old_RS (b e sz : Nat) (x : RS) : (x.av e sz).old b = oldL b x.l := by cases x <;> simp [RS.av, RS.l]
@[simp] theorem old_RSf (b e sz : Nat) (x : RS) : (x.fv e sz).old b = oldL b x.l := by cases x <;> simp [RS.fv, RS.l]
@[simp] theorem old_RSl (b e sz : Nat) (x : RS) : (x.lv e sz).old b = oldL b x.l := by cases x <;> simp [RS.lv, RS.l]

theorem Ks.len_le : ∀ ks : Ks, ks.len ≤ ks.nodes
  | .nil => Nat.le_refl _
  | .cons nm v r => by
    have := Ks.len_le r
    cases v
    simp only [Ks.len, Ks.nodes, Tr.nodes]; omega
def Ks.elems : Ks → List (List UInt8)
  | .nil => []
  | .cons nm v r => elemL nm v :: r.elems
@[simp] theorem Ks.elems_length : ∀ ks : Ks, ks.elems.length = ks.len
  | .nil => rfl
  | .cons nm v r => by simp [Ks.elems, Ks.len, Ks.elems_length r]
theorem Ks.elems_app : ∀ a b : Ks, (a.app b).elems = a.elems ++ b.elems
  | .nil, b => rfl
  | .cons nm v s, b => by simp [Ks.app, Ks.elems, Ks.elems_app s b]
theorem Ks.body_flat : ∀ ks : Ks, ks.body = ks.elems.flatten
  | .nil => rfl
  | .cons nm v r => by simp [Ks.body, Ks.elems, elemL, hdL, Ks.body_flat r]
end Go.Proofs.YtcodfehgnjplcaaGreatDoor.Abs

/- Memories made one behind the other; rows of plain cells that are only read. -/
namespace Go.Proofs.YtcodfehgnjplcaaGreatDoor.Abs
set_option linter.all false
set_option linter.unusedVariables false

def H.app (h : H) (os : List Obj) : H := ⟨h.base, h.l ++ os.map some, h.Γ⟩
theorem H.push_app (h : H) (o : Obj) : h.push o = h.app [o] := rfl
theorem H.app_app (h : H) (a b : List Obj) : (h.app a).app b = h.app (a ++ b) := by simp [H.app]
theorem H.app_push (h : H) (os : List Obj) (o : Obj) : (h.app os).push o = h.app (os ++ [o]) := by simp [H.app, H.push]
@[simp] theorem H.n_app (h : H) (os : List Obj) : (h.app os).n = h.n + os.length := by simp [H.app, H.n, Nat.add_assoc]
@[simp] theorem H.Γ_app (h : H) (os : List Obj) : (h.app os).Γ = h.Γ := rfl
@[simp] theorem H.get_app (h : H) (os : List Obj) (j : Nat) : (h.app os).get (h.n + j) = os[j]? := by
  unfold H.get H.app H.n
  simp only
  rw [if_neg (by omega), List.getElem?_append_right (by omega)]
  rw [show h.base + h.l.length + j - h.base - h.l.length = j by omega, List.getElem?_map]
  cases os[j]? <;> rfl
@[simp] theorem H.get_app0 (h : H) (os : List Obj) : (h.app os).get h.n = os[0]? := H.get_app h os 0
theorem H.get_app_old (h : H) (os : List Obj) {i : Nat} (hi : i < h.n) : (h.app os).get i = h.get i := by
  unfold H.get H.app
  unfold H.n at hi
  simp only
  split
  · rfl
  · rw [List.getElem?_append_left (by omega)]
theorem H.set_app (h : H) (os : List Obj) {j : Nat} (hj : j < os.length) (o : Obj) : (h.app os).set (h.n + j) o = h.app (os.set j o) := by
  unfold H.set H.app H.n
  simp only
  rw [if_neg (by omega), List.set_append_right _ _ (by omega)]
  congr 1
  rw [show h.base + h.l.length + j - h.base - h.l.length = j by omega, List.map_set]
@[simp] theorem H.set_app0 (h : H) (x : Obj) (os : List Obj) (o : Obj) : (h.app (x :: os)).set h.n o = h.app (o :: os) := H.set_app h (x :: os) (j := 0) (by simp) o
theorem H.set_app_same (h : H) (os : List Obj) {j : Nat} {o : Obj} (hj : os[j]? = some o) : (h.app os).set (h.n + j) o = h.app os := H.set_get (by rw [H.get_app]; exact hj)

@[simp] theorem RS.sh_sh (b : RS) : b.sh.sh = b.sh := by cases b <;> rfl
@[simp] theorem oldL_strs (n : Nat) : ∀ l : List (List UInt8), oldL n (l.map AV.str) = true
  | [] => by simp
  | _ :: l => by simp [oldL_strs n l]
@[simp] theorem oldL_ints (n : Nat) (k : IntKind) : ∀ l : List Int, oldL n (l.map (AV.int k)) = true
  | [] => by simp
  | _ :: l => by simp [oldL_ints n k l]
theorem RS.fv_len1 (e : Nat) (b : RS) : aLen false (b.fv e 1) = some (.int .i64 (b.l.length : Int)) := RS.fv_len (by omega) (by omega)
theorem RS.fv_at {e : Nat} {b : RS} {pre r : List AV} {x : AV} (h : b.l = pre ++ x :: r) : ixV 1 (b.fv e 1) (.int .i64 (pre.length : Int)) = some (.eptr (x :: r)) := by
  rw [RS.fv_ix (n := b.l.length) (by omega) (by omega) (by rw [h]; simp)]
  rw [h]; simp
theorem RS.fv_at' {e : Nat} {b : RS} {k : Nat} {pre r : List AV} {x : AV} (h : b.l = pre ++ x :: r) (hk : k = pre.length) : ixV 1 (b.fv e 1) (.int .i64 (k : Int)) = some (.eptr (x :: r)) := by
  subst hk; exact RS.fv_at h
def ptrsF (n m : Nat) : List AV := (List.range m).map fun j => .ptr (.obj (n + (j + 1))) 0
theorem ptrsF_succ (n m : Nat) : ptrsF n (m + 1) = ptrsF n m ++ [.ptr (.obj (n + (m + 1))) 0] := by simp [ptrsF, List.range_succ]
@[simp] theorem ptrsF_length (n m : Nat) : (ptrsF n m).length = m := by simp [ptrsF]
@[simp] theorem ptrsF_zero (n : Nat) : ptrsF n 0 = [] := rfl
theorem ptrsF_at (n m k : Nat) (hk : k < m) : ∃ pre r, ptrsF n m = pre ++ .ptr (.obj (n + (k + 1))) 0 :: r ∧ pre.length = k := by
  refine ⟨(ptrsF n m).take k, (ptrsF n m).drop (k + 1), ?_, by simp; omega⟩
  have hk' : k < (ptrsF n m).length := by simpa using hk
  have : (ptrsF n m)[k] = .ptr (.obj (n + (k + 1))) 0 := by simp [ptrsF]
  rw [← this, List.getElem_cons_drop, List.take_append_drop]
theorem fits_row {P : Program} {t e : TypeId} (ht : P.underlying t = some (.slice e)) (hc : P.cellsOf e = 1) {α : Type} (f : α → AV) (hf : ∀ k r, FitsC P k e r → ∃ y : α, r = [f y]) {k : Nat} {xs : List AV} (h : FitsC P k t xs) :
    ∃ (b : RS) (l : List α), xs = [b.fv e 1] ∧ b.l = l.map f ∧ l.length ≤ reachBytes := by
  cases k with
  | zero => exact h.elim
  | succ k =>
    simp only [FitsC, ht, hc] at h
    rcases h with rfl | ⟨rows, rfl, hl, hr⟩
    · exact ⟨.nil, [], rfl, rfl, by simp⟩
    · have : ∃ l : List α, rows.flatten = l.map f ∧ l.length = rows.length := by
        clear hl
        induction rows with
        | nil => exact ⟨[], rfl, rfl⟩
        | cons r rows ihr =>
          obtain ⟨l, e1, e2⟩ := ihr (fun r hr' => hr r (List.mem_cons_of_mem _ hr'))
          obtain ⟨_, h2⟩ := hr r List.mem_cons_self
          obtain ⟨y, rfl⟩ := hf k r h2
          exact ⟨y :: l, by simp [e1], by simp [e2]⟩
      obtain ⟨l, e1, e2⟩ := this
      exact ⟨.own true (l.map f), l, by rw [e1]; rfl, rfl, by omega⟩

/-! ### Arrays of bytes in memory -/
theorem notOwn_bytes (l : List UInt8) : (byteCells l).all (fun c => !c.isOwn) = true := by
  rw [List.all_eq_true]; intro x hx
  obtain ⟨b, _, rfl⟩ := List.mem_map.1 hx
  rfl
theorem hcells_bytes {h : H} {i k m : Nat} {l : List UInt8} (hg : h.get i = some (.cells (byteCells l))) (hk : k + m ≤ l.length) : hcells h i k m = some (byteCells ((l.drop k).take m)) := by
  unfold hcells
  rw [hg]
  simp only
  rw [if_pos ⟨by simpa [byteCells] using hk, notOwn_bytes l⟩]
  simp [byteCells, List.map_drop, List.map_take]
theorem cvBS_arr {h : H} {i k e m : Nat} {l : List UInt8} (hg : h.get i = some (.cells (byteCells l))) (hk : k + m ≤ l.length) : cvBS h (.hsl i k e 1 m) = some (.str ((l.drop k).take m)) := by
  simp only [cvBS, hcells_bytes hg hk, Option.bind_some, bytesOf_cells, Option.map_some]
theorem moreV_arr {h : H} {i k e m : Nat} {l : List UInt8} (hg : h.get i = some (.cells (byteCells l))) (hk : k + m ≤ l.length) : moreV h 1 false (.hsl i k e 1 m) = some (byteCells ((l.drop k).take m)) := by
  simp [moreV, hcells_bytes hg hk]
theorem apV_arr {h : H} {i k e m : Nat} {l : List UInt8} (hg : h.get i = some (.cells (byteCells l))) (hk : k + m ≤ l.length) (hm : m ≤ 1073741824) :
    apV h e 1 1 false (.slice .nil 0 1 []) (.hsl i k e 1 m) = some ((BS.mk ((l.drop k).take m)).av e) := by
  have hl : ((l.drop k).take m).length = m := by simp; omega
  simp only [apV, moreV_arr hg hk, Option.bind_some, List.length_nil, Nat.zero_add, byteCells, List.length_map, hl, Nat.div_one, Nat.mul_one]
  rw [if_pos ⟨by simp only [tooLong]; omega, by simp only [tooLong]; omega⟩]
  cases hx : (l.drop k).take m with
  | nil => rw [hx] at hl; simp at hl; subst hl; rfl
  | cons a r => rw [hx] at hl; rw [if_neg (by simp at hl; omega)]; rfl
theorem map_gv_bytes (l : List UInt8) : (byteCells l).map gvV = byteCells l := by
  simp only [byteCells, List.map_map]; apply List.map_congr_left; intro b _; rfl
theorem splice_self (cs : List AV) : splice cs 0 cs = cs := by simp [splice]
theorem ldO_arr {m : Mode} {n : Nat} {l : List UInt8} (hn : l.length = n) : ldO m true n 0 (.cells (byteCells l)) = some (.agg (byteCells l), .cells (byteCells l)) := by
  subst hn
  unfold ldO
  have hl : (byteCells l).length = l.length := by simp [byteCells]
  simp only [Nat.zero_add, hl, Nat.le_refl, if_true, List.drop_zero]
  rw [show (byteCells l).take l.length = byteCells l by rw [← hl, List.take_length], map_gv_bytes, splice_self]
theorem bAV_at {e : Nat} {l : List UInt8} {k : Nat} (hk : k < l.length) : ixV 1 (bAV e (some l)) (.int .i64 (k : Int)) = some (.eptr (.int .u8 (l[k].toNat : Int) :: byteCells (l.drop (k + 1)))) := by
  have h1 : (byteCells l).length = l.length := by simp [byteCells]
  have h2 : (0 : Int) ≤ (k : Int) := by omega
  have h3 : (byteCells l).drop k = .int .u8 (l[k].toNat : Int) :: byteCells (l.drop (k + 1)) := by
    unfold byteCells
    rw [← List.map_drop, List.drop_eq_getElem_cons hk]; rfl
  simp [ixV, bAV, h1, hk, h3]
theorem ex2_0 (a b : AV) : exV (.tup [a, b]) 0 = some (a, .tup [a.cls .left, b]) := rfl
theorem ex2_1 (a b : AV) : exV (.tup [a, b]) 1 = some (b, .tup [a, b.cls .left]) := rfl
theorem ex3_0 (a b c : AV) : exV (.tup [a, b, c]) 0 = some (a, .tup [a.cls .left, b, c]) := rfl
theorem ex3_1 (a b c : AV) : exV (.tup [a, b, c]) 1 = some (b, .tup [a, b.cls .left, c]) := rfl
theorem ex3_2 (a b c : AV) : exV (.tup [a, b, c]) 2 = some (c, .tup [a, b, c.cls .left]) := rfl
end Go.Proofs.YtcodfehgnjplcaaGreatDoor.Abs
