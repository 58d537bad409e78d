/- The heap, for the simplifier: what is read of it, what is written; calls that are not handed it. -/
import Derived.Test.YtjlioidknhdceaaDoorTR3
namespace Go.Proofs.YtjlioidknhdceaaDoor.Abs
set_option linter.all false
set_option linter.unusedVariables false

/-! ### What names no memory made later -/
@[simp] theorem old_bool (b : Nat) (x : Bool) : (AV.bool x).old b = true := by simp [AV.old]
@[simp] theorem old_int (b : Nat) (k : IntKind) (n : Int) : (AV.int k n).old b = true := by simp [AV.old]
@[simp] theorem old_str (b : Nat) (s : List UInt8) : (AV.str s).old b = true := by simp [AV.old]
@[simp] theorem old_slice (b : Nat) (c : Cls) (e sz : Nat) (xs : List AV) : (AV.slice c e sz xs).old b = oldL b xs := by simp [AV.old]
@[simp] theorem old_agg (b : Nat) (xs : List AV) : (AV.agg xs).old b = oldL b xs := by simp [AV.old]
@[simp] theorem old_tup (b : Nat) (xs : List AV) : (AV.tup xs).old b = oldL b xs := by simp [AV.old]
@[simp] theorem oldL_nil (b : Nat) : oldL b [] = true := by simp [oldL]
@[simp] theorem oldL_cons (b : Nat) (x : AV) (xs : List AV) : oldL b (x :: xs) = (x.old b && oldL b xs) := by simp [oldL]
@[simp] theorem oldL_append (b : Nat) : ∀ (xs ys : List AV), oldL b (xs ++ ys) = (oldL b xs && oldL b ys)
  | [], ys => by simp
  | x :: xs, ys => by simp [oldL_append b xs ys, Bool.and_assoc]
@[simp] theorem oldL_bytes (b : Nat) : ∀ l : List UInt8, oldL b (byteCells l) = true
  | [] => by simp [byteCells]
  | c :: l => by simp [byteCells_cons, oldL_bytes b l]
@[simp] theorem old_bAV (b e : Nat) (o : Option (List UInt8)) : (bAV e o).old b = true := by cases o <;> simp [bAV]
section
variable (b eB eE : Nat)
mutual
theorem old_Tr : ∀ v : Tr, oldL b (v.cells eB eE) = true
  | .mk k t m n bi hi bb kn ks => by simp [Tr.cells, old_Ks ks kn]
theorem old_Ks : ∀ (ks : Ks) (kn : Bool), (Ks.av eB eE ks kn).old b = true
  | .nil, kn => by cases kn <;> simp [Ks.av]
  | .cons nm v r, kn => by simp [Ks.av, old_Tr v, old_Kf r]
theorem old_Kf : ∀ ks : Ks, oldL b (ks.flat eB eE) = true
  | .nil => by simp [Ks.flat]
  | .cons nm v r => by simp [Ks.flat, old_Tr v, old_Kf r]
end
end
attribute [simp] old_Tr old_Ks old_Kf

/-! ### The heap -/
@[simp] theorem H.n_mask (h : H) : h.mask.n = h.n := by simp [H.mask, H.n]
@[simp] theorem H.Γ_mask (h : H) : h.mask.Γ = h.Γ := rfl
attribute [simp] H.n_push H.n_set H.n_del H.Γ_push H.Γ_set H.Γ_del
@[simp] theorem noHeap_old {b : Nat} {v : AV} {h : H} (hv : v.old b = true) : noHeap b (v, h) = some v := by simp [noHeap, hv]
@[simp] theorem H.get_push_n (h : H) (o : Obj) : (h.push o).get h.n = some o := by rw [H.get_push, if_pos rfl]
theorem H.get_push_ne (h : H) (o : Obj) {i : Nat} (hi : i ≠ h.n) : (h.push o).get i = h.get i := by rw [H.get_push, if_neg hi]
theorem H.lt_of_get {h : H} {i : Nat} {o : Obj} (hi : h.get i = some o) : i < h.n := (H.get_lt hi).2
theorem H.get_set_same {h : H} {i : Nat} {x : Obj} (hx : h.get i = some x) (o : Obj) : (h.set i o).get i = some o := by rw [H.get_set hx, if_pos rfl]
theorem H.get_set_ne (h : H) (o : Obj) {i j : Nat} (hj : j ≠ i) : (h.set i o).get j = h.get j := by
  unfold H.set
  split
  · rfl
  · unfold H.get
    simp only
    split
    · rfl
    · rw [List.getElem?_set_ne (by omega)]
@[simp] theorem H.set_set (h : H) (i : Nat) (o o' : Obj) : (h.set i o).set i o' = h.set i o' := by
  unfold H.set
  split
  · rfl
  · simp
theorem H.set_get {h : H} {i : Nat} {o : Obj} (hx : h.get i = some o) : h.set i o = h := by
  obtain ⟨h1, h2⟩ := H.get_lt hx
  unfold H.set
  rw [if_neg (by omega)]
  unfold H.get at hx
  rw [if_neg (by omega)] at hx
  have : h.l.set (i - h.base) (some o) = h.l := by
    apply List.ext_getElem?
    intro j
    by_cases hj : i - h.base = j
    · subst hj
      rw [List.getElem?_set_self (by unfold H.n at h2; omega)]
      cases hh : h.l[i - h.base]? with
      | none => rw [hh] at hx; cases hx
      | some y => rw [hh] at hx; simp [Option.join] at hx; rw [hx]
    · rw [List.getElem?_set_ne hj]
  rw [this]
@[simp] theorem H.push_set_n (h : H) (o o' : Obj) : (h.push o).set h.n o' = h.push o' := by
  unfold H.push H.set H.n
  simp; omega
structure H.Grown (h h' : H) : Prop where
  n : h.n ≤ h'.n
  get : ∀ i, i < h.n → h'.get i = h.get i
  Γ : h'.Γ = h.Γ
theorem H.Grown.refl (h : H) : H.Grown h h := ⟨Nat.le_refl _, fun _ _ => rfl, rfl⟩
theorem H.Grown.trans {a b c : H} (h : H.Grown a b) (k : H.Grown b c) : H.Grown a c := ⟨Nat.le_trans h.n k.n, fun i hi => (k.get i (Nat.lt_of_lt_of_le hi h.n)).trans (h.get i hi), k.Γ.trans h.Γ⟩
theorem H.Grown.push (h : H) (o : Obj) : H.Grown h (h.push o) := ⟨by simp, fun i hi => H.get_push_ne h o (Nat.ne_of_lt hi), rfl⟩
theorem H.Grown.some {h h' : H} (g : H.Grown h h') {i : Nat} {o : Obj} (hi : h.get i = .some o) : h'.get i = .some o := by rw [g.get i (H.lt_of_get hi)]; exact hi

/-! ### Operands whose row goes to the heap, comes back, is promised -/
def pinV (v : AV) (st : St) (n : Nat) : AV × St :=
  match v with
  | .slice (.own true) e sz xs => (.hsl st.h.n 0 e sz (xs.length / sz), ⟨upd st.s n (.hsl st.h.n 0 e sz (xs.length / sz)), st.b, st.h.push (.row e sz none xs)⟩)
  | v => (hdV v, st)
def unpinO (ob : Option Obj) (st : St) (n i k e sz m : Nat) : AV × St :=
  match ob with
  | some (.row e' sz' _ xs) => if k = 0 ∧ e' = e ∧ sz' = sz ∧ xs.length = m * sz then (.slice (.own true) e sz xs, ⟨upd st.s n (.slice .hdr e sz xs), st.b, st.h.del i⟩)
    else if k = 0 ∧ e' = e ∧ sz' = sz ∧ m * sz ≤ xs.length then (.slice (.own true) e sz (xs.take (m * sz)), ⟨upd st.s n (.slice .hdr e sz (xs.take (m * sz))), st.b, st.h.del i⟩) else (.hsl i k e sz m, st)
  | _ => (.hsl i k e sz m, st)
def takeU (v : AV) (st : St) (n : Nat) : AV × St :=
  match v with
  | .hsl i k e sz m => unpinO (st.h.get i) st n i k e sz m
  | v => (v, st.set n (lfV v))
def frzO (ob : Option Obj) (st : St) (n i k e sz m : Nat) : AV × St :=
  match ob with
  | some (.row _ _ _ xs) => if k + m * sz ≤ xs.length then (.slice .frz e sz ((xs.drop k).take (m * sz)), ⟨upd st.s n (.slice .frz e sz ((xs.drop k).take (m * sz))), st.b, st.h.set i (.ro xs)⟩) else (.hsl i k e sz m, st)
  | some (.ro xs) => if k + m * sz ≤ xs.length then (.slice .frz e sz ((xs.drop k).take (m * sz)), ⟨upd st.s n (.slice .frz e sz ((xs.drop k).take (m * sz))), st.b, st.h⟩) else (.hsl i k e sz m, st)
  | _ => (.hsl i k e sz m, st)
def giveF (v : AV) (st : St) (n : Nat) : AV × St :=
  match v with
  | .hsl i k e sz m => frzO (st.h.get i) st n i k e sz m
  | v => (gvV v, st.set n (gvV v))
section
variable {st : St} {n i k e sz m e' sz' : Nat} {cp : Option Nat} {xs : List AV} {c : Cls} {b : Bool} {ob : Option Obj}
@[simp] theorem ev_give_m : give st (.m n) = pinV (st.s n) st n := id rfl
@[simp] theorem ev_take_m : take st (.m n) = pinV (st.s n) st n := id rfl
@[simp] theorem ev_copy_m {md : Mode} : copy md st (.m n) = pinV (st.s n) st n := id rfl
@[simp] theorem ev_take_u : take st (.u n) = takeU (st.s n) st n := id rfl
@[simp] theorem ev_take_f : take st (.f n) = (st.s n, st.set n (lfV (st.s n))) := id rfl
@[simp] theorem ev_give_u : give st (.u n) = (gvV (st.s n), st.set n (gvV (st.s n))) := id rfl
@[simp] theorem ev_copy_u {md : Mode} : copy md st (.u n) = (cpV md (st.s n), st.set n (cpS md (st.s n))) := id rfl
@[simp] theorem ev_copy_f {md : Mode} : copy md st (.f n) = (cpV md (st.s n), st.set n (cpS md (st.s n))) := id rfl
@[simp] theorem ev_give_f : give st (.f n) = giveF (st.s n) st n := id rfl
@[simp] theorem ev_peek_m : peek st (.m n) = hdV (st.s n) := id rfl
@[simp] theorem ev_peek_u : peek st (.u n) = hdV (st.s n) := id rfl
@[simp] theorem ev_peek_f : peek st (.f n) = hdV (st.s n) := id rfl
@[simp] theorem pinV_own : pinV (.slice (.own true) e sz xs) st n = (.hsl st.h.n 0 e sz (xs.length / sz), ⟨upd st.s n (.hsl st.h.n 0 e sz (xs.length / sz)), st.b, st.h.push (.row e sz none xs)⟩) := id rfl
@[simp] theorem pinV_hsl : pinV (.hsl i k e sz m) st n = (.hsl i k e sz m, st) := id rfl
@[simp] theorem pinV_nil : pinV (.slice .nil e sz xs) st n = (.slice .nil e sz xs, st) := id rfl
@[simp] theorem takeU_hsl : takeU (.hsl i k e sz m) st n = unpinO (st.h.get i) st n i k e sz m := id rfl
@[simp] theorem takeU_slice : takeU (.slice c e sz xs) st n = (.slice c e sz xs, st.set n (lfV (.slice c e sz xs))) := id rfl
@[simp] theorem takeU_bool {x : Bool} : takeU (.bool x) st n = (.bool x, st.set n (.bool x)) := id rfl
@[simp] theorem takeU_int {kd : IntKind} {x : Int} : takeU (.int kd x) st n = (.int kd x, st.set n (.int kd x)) := id rfl
@[simp] theorem takeU_str {x : List UInt8} : takeU (.str x) st n = (.str x, st.set n (.str x)) := id rfl
@[simp] theorem takeU_flt {kd : FloatKind} {x : Nat} : takeU (.flt kd x) st n = (.flt kd x, st.set n (.flt kd x)) := id rfl
@[simp] theorem takeU_agg {x : List AV} : takeU (.agg x) st n = (.agg x, st.set n (.agg x)) := id rfl
@[simp] theorem takeU_ptr {kk : K} {x : Nat} : takeU (.ptr kk x) st n = (.ptr kk x, st.set n (.ptr kk x)) := id rfl
@[simp] theorem takeU_eptr {x : List AV} : takeU (.eptr x) st n = (.eptr x, st.set n (.eptr x)) := id rfl
@[simp] theorem takeU_nilptr : takeU .nilptr st n = (.nilptr, st.set n .nilptr) := id rfl
@[simp] theorem takeU_iface {t : TypeId} {v : AV} : takeU (.iface t v) st n = (.iface t v, st.set n (.iface t v)) := id rfl
@[simp] theorem takeU_nilI : takeU .nilI st n = (.nilI, st.set n .nilI) := id rfl
@[simp] theorem takeU_fn {f : FuncId} : takeU (.fn f) st n = (.fn f, st.set n (.fn f)) := id rfl
@[simp] theorem takeU_gl {g : Nat} : takeU (.gl g) st n = (.gl g, st.set n (.gl g)) := id rfl
@[simp] theorem takeU_nilfn : takeU .nilfn st n = (.nilfn, st.set n .nilfn) := id rfl
theorem takeU_b (e : Nat) (o : Option (List UInt8)) : takeU (bAV e o) st n = (bAV e o, st.set n (bAV e o)) := by cases o <;> rfl
theorem takeU_BS (e : Nat) (x : BS) : takeU (x.av e) st n = (x.av e, st.set n (x.lv e)) := by cases x <;> rfl
theorem takeU_BSl (e : Nat) (x : BS) : takeU (x.lv e) st n = (x.lv e, st.set n (x.lv e)) := by cases x <;> rfl
theorem takeU_Ks (eB eE : Nat) (ks : Ks) (kn : Bool) : takeU (Ks.av eB eE ks kn) st n = (Ks.av eB eE ks kn, st.set n (Ks.av eB eE ks kn)) := by
  rcases Ks.av_cases eB eE ks kn with ⟨_, _, h⟩ | h <;> rw [h] <;> rfl
@[simp] theorem unpinO_row : unpinO (some (.row e' sz' cp xs)) st n i k e sz m = if k = 0 ∧ e' = e ∧ sz' = sz ∧ xs.length = m * sz then (.slice (.own true) e sz xs, ⟨upd st.s n (.slice .hdr e sz xs), st.b, st.h.del i⟩)
    else if k = 0 ∧ e' = e ∧ sz' = sz ∧ m * sz ≤ xs.length then (.slice (.own true) e sz (xs.take (m * sz)), ⟨upd st.s n (.slice .hdr e sz (xs.take (m * sz))), st.b, st.h.del i⟩) else (.hsl i k e sz m, st) := id rfl
@[simp] theorem unpinO_cells : unpinO (some (.cells xs)) st n i k e sz m = (.hsl i k e sz m, st) := id rfl
@[simp] theorem unpinO_ro : unpinO (some (.ro xs)) st n i k e sz m = (.hsl i k e sz m, st) := id rfl
@[simp] theorem giveF_hsl : giveF (.hsl i k e sz m) st n = frzO (st.h.get i) st n i k e sz m := id rfl
@[simp] theorem giveF_slice : giveF (.slice c e sz xs) st n = (gvV (.slice c e sz xs), st.set n (gvV (.slice c e sz xs))) := id rfl
@[simp] theorem frzO_row : frzO (some (.row e' sz' cp xs)) st n i k e sz m = if k + m * sz ≤ xs.length then (.slice .frz e sz ((xs.drop k).take (m * sz)), ⟨upd st.s n (.slice .frz e sz ((xs.drop k).take (m * sz))), st.b, st.h.set i (.ro xs)⟩) else (.hsl i k e sz m, st) := id rfl
@[simp] theorem frzO_ro : frzO (some (.ro xs)) st n i k e sz m = if k + m * sz ≤ xs.length then (.slice .frz e sz ((xs.drop k).take (m * sz)), ⟨upd st.s n (.slice .frz e sz ((xs.drop k).take (m * sz))), st.b, st.h⟩) else (.hsl i k e sz m, st) := id rfl
end
attribute [simp] takeU_b takeU_BS takeU_BSl takeU_Ks
@[simp] theorem ev_lenV_hsl (i k e sz n : Nat) : lenV (.hsl i k e sz n) = some (n : Int) := rfl
@[simp] theorem ev_len_hsl (i k e sz n : Nat) : aLen false (.hsl i k e sz n) = some (.int .i64 (n : Int)) := rfl
attribute [simp] Run_some' Option.elim_some
section
variable {m : Mode} {n off e sz : Nat} {cp : Option Nat} {cs : List AV} {v : AV}
@[simp] theorem ldO_cf : ldO m false n off (.cells cs) = (cs[off]?).map fun v => (cpV m v, .cells (splice cs off [cpS m v])) := id rfl
@[simp] theorem ldO_ct : ldO m true n off (.cells cs) = if off + n ≤ cs.length then some (.agg (((cs.drop off).take n).map gvV), .cells (splice cs off (((cs.drop off).take n).map gvV))) else none := id rfl
@[simp] theorem ldO_rf : ldO m false n off (.row e sz cp cs) = (cs[off]?).map fun v => (v, .row e sz cp cs) := id rfl
@[simp] theorem ldO_rt : ldO m true n off (.row e sz cp cs) = if off + n ≤ cs.length then some (.agg ((cs.drop off).take n), .row e sz cp cs) else none := id rfl
@[simp] theorem ldO_of : ldO m false n off (.ro cs) = (cs[off]?).map fun v => (v, .ro cs) := id rfl
@[simp] theorem ldO_ot : ldO m true n off (.ro cs) = if off + n ≤ cs.length then some (.agg ((cs.drop off).take n), .ro cs) else none := id rfl
@[simp] theorem stO_c : stO n off v (.cells cs) = if v.plain && v.cells.length == n && decide (off + n ≤ cs.length) then some (.cells (splice cs off v.cells)) else none := id rfl
@[simp] theorem rowTo_eq {len : Nat} : rowTo sz off n cp len = (decide (off + n ≤ len) || (decide (off ≤ len) && decide (off % sz = 0) && n == sz && roomN cp (off + n))) := id rfl
@[simp] theorem roomN_some {N x : Nat} : roomN (some N) x = decide (x ≤ N) := id rfl
@[simp] theorem stO_r : stO n off v (.row e sz cp cs) = if v.plain && !v.isOwn && v.cells.length == n && rowTo sz off n cp cs.length then some (.row e sz cp (splice cs off v.cells)) else none := id rfl
end
@[simp] theorem bl_some (l : List UInt8) : bl (some l) = l := rfl
@[simp] theorem bl_none : bl none = [] := rfl
/-! ### Bytes written into a row -/
def setL (l : List UInt8) (k : Nat) (ys : List UInt8) : List UInt8 := l.take k ++ ys ++ l.drop (k + ys.length)
end Go.Proofs.YtjlioidknhdceaaDoor.Abs
