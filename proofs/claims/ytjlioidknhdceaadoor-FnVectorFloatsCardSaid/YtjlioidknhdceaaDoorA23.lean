/- The interpreter at its limit: what holds from some depth on. -/
import Derived.Test.YtjlioidknhdceaaDoorA22
namespace Go.Proofs.YtjlioidknhdceaaDoor.Abs
set_option linter.all false
set_option linter.unusedVariables false

/-! ### More depth, no fewer outcomes -/
def LE (cl cl' : FuncId → List AV → H → T (AV × H)) : Prop := ∀ f vs h R, (cl f vs h).All R → (cl' f vs h).All R
def LEl (lp lp' : ACode → St → T (Ex × St)) : Prop := ∀ c st R, (lp c st).All R → (lp' c st).All R

section
variable {β : Type} {cl cl' : FuncId → List AV → H → T (AV × H)} {lp lp' : ACode → St → T (Ex × St)}
theorem fillK_mono {R : β → Prop} : ∀ {l : List (Nat × Nat × AX)} {cs : List AV} {st : St} {k k' : List AV → St → T β}, (∀ cs st, (k cs st).All R → (k' cs st).All R) → (fillK l cs st k).All R → (fillK l cs st k').All R
  | [], cs, st, k, k', hk, h => hk _ _ h
  | (off, n, x) :: l, cs, st, k, k', hk, h => by
    simp only [fillK, T.All_on] at h ⊢
    obtain ⟨cs1, h1, h2⟩ := h
    exact ⟨cs1, h1, fillK_mono hk h2⟩
theorem argsK_mono {R : β → Prop} : ∀ {l : List (AX × Bool)} {st : St} {k k' : List AV → St → T β}, (∀ vs st, (k vs st).All R → (k' vs st).All R) → (argsK l st k).All R → (argsK l st k').All R
  | [], st, k, k', hk, h => hk _ _ h
  | (x, true) :: l, st, k, k', hk, h => by
    simp only [argsK, T.All_on] at h ⊢
    obtain ⟨u, h1, h2⟩ := h
    exact ⟨u, h1, argsK_mono (fun _ _ => hk _ _) h2⟩
  | (x, false) :: l, st, k, k', hk, h => by
    simp only [argsK, T.All_on] at h ⊢
    obtain ⟨u, h1, h2⟩ := h
    exact ⟨u, h1, argsK_mono (fun _ _ => hk _ _) h2⟩
theorem opK_mono (hc : LE cl cl') {R : β → Prop} {x : AOp} {st : St} {k k' : AV → St → T β} (hk : ∀ v st, (k v st).All R → (k' v st).All R) (h : (opK cl x st k).All R) : (opK cl' x st k').All R := by
  cases x
  case call f args =>
    simp only [opK] at h ⊢
    refine argsK_mono (fun vs st h => ?_) h
    simp only [T.All_bind, T.All_on] at h ⊢
    exact T.All.mono (fun q ⟨v, h1, h2⟩ => ⟨v, h1, hk _ _ h2⟩) (hc _ _ _ _ h)
  case hcall f args =>
    simp only [opK] at h ⊢
    refine argsK_mono (fun vs st h => ?_) h
    simp only [T.All_bind] at h ⊢
    exact T.All.mono (fun q h2 => hk _ _ h2) (hc _ _ _ _ h)
  case dcall hc' tbl x args =>
    simp only [opK] at h ⊢
    refine argsK_mono (fun vs st h => ?_) h
    simp only [T.All_on] at h ⊢
    obtain ⟨q, h1, h⟩ := h
    refine ⟨q, h1, ?_⟩
    cases hc' with
    | true =>
      simp only [T.All_bind] at h ⊢
      exact T.All.mono (fun q h2 => hk _ _ h2) (hc _ _ _ _ h)
    | false =>
      simp only [T.All_bind, T.All_on] at h ⊢
      exact T.All.mono (fun q ⟨v, h1, h2⟩ => ⟨v, h1, hk _ _ h2⟩) (hc _ _ _ _ h)
  case newbox1 d cs =>
    simp only [opK] at h ⊢
    split at h
    · exact hk _ _ h
    · exact h.elim
  case range d x =>
    simp only [opK, T.All_on] at h ⊢
    obtain ⟨v, h1, h2⟩ := h
    refine ⟨v, h1, ?_⟩
    cases v <;> first | exact hk _ _ h2 | exact h2
  all_goals simp only [opK, T.All_on, T.All_bind] at h ⊢
  all_goals first
    | exact hk _ _ h
    | (obtain ⟨v, h1, h2⟩ := h; exact ⟨v, h1, hk _ _ h2⟩)
    | exact fillK_mono (fun _ _ => hk _ _) h
    | exact T.All.mono (fun q h2 => hk _ _ h2) h
    | exact h
theorem opsK_mono (hc : LE cl cl') {R : β → Prop} : ∀ {l : List AOper} {st : St} {k k' : St → T β}, (∀ st, (k st).All R → (k' st).All R) → (opsK cl l st k).All R → (opsK cl' l st k').All R
  | [], st, k, k', hk, h => hk _ h
  | o :: l, st, k, k', hk, h => by
    cases hg : o.guard with
    | none =>
      simp only [opsK, hg] at h ⊢
      exact opK_mono hc (fun v st h => opsK_mono hc hk h) h
    | some g =>
      obtain ⟨d, want⟩ := g
      simp only [opsK, hg, T.All_bind] at h ⊢
      refine T.All.mono (fun st h => opsK_mono hc hk h) ?_
      unfold onGuard at h ⊢
      split at h
      · split at h
        · rename_i b _ hb; rw [if_pos hb]; exact opK_mono hc (fun _ _ h => h) h
        · rename_i b _ hb; rw [if_neg hb]; exact h
      · exact h
      · exact h
theorem xexec_mono (hc : LE cl cl') (hl : LEl lp lp') : ∀ {c : ACode} {st : St} {R : Ex × St → Prop}, (xexec cl lp c st).All R → (xexec cl' lp' c st).All R := by
  intro c
  induction c with
  | skip => intro st R h; exact h
  | ops l k ih => intro st R h; simp only [xexec] at h ⊢; exact opsK_mono hc (fun st h => ih h) h
  | seq a k iha ihk =>
    intro st R h
    simp only [xexec, T.All_bind] at h ⊢
    refine T.All.mono (fun r h => ?_) (iha h)
    obtain ⟨e, st⟩ := r
    cases e <;> first | exact ihk h | exact h
  | cond c a b iha ihb =>
    intro st R h
    simp only [xexec] at h ⊢
    unfold onBool at h ⊢
    split at h
    · exact iha h
    · exact ihb h
    · exact h
  | block id a ih => intro st R h; simp only [xexec, T.All_bind] at h ⊢; exact ih h
  | loop a ih => intro st R h; exact hl _ _ _ h
  | exit id => intro st R h; exact h
  | ret => intro st R h; exact h
end

section
variable (fns : FuncId → Option AFunc)
theorem callN_mono : ∀ m, LE (callN fns m) (callN fns (m + 1)) ∧ LEl (loopN fns m) (loopN fns (m + 1)) := by
  intro m
  induction m with
  | zero => exact ⟨fun _ _ _ _ h => h.elim, fun _ _ _ h => h.elim⟩
  | succ m ih =>
    refine ⟨fun f vs h R hh => ?_, fun c st R hh => ?_⟩
    · simp only [callN, T.All_on] at hh ⊢
      obtain ⟨af, h1, h2⟩ := hh
      refine ⟨af, h1, ?_⟩
      split at h2
      · rename_i hle
        rw [if_pos hle]
        split at h2
        · rename_i v hv
          exact h2
        · rename_i hv
          simp only [xbody, T.All_bind] at h2 ⊢
          have := xexec_mono ih.1 ih.2 h2
          simp only [callN] at this ⊢
          exact this
      · exact h2.elim
    · have hh' : (xexec (callN fns m) (loopN fns m) c st).All fun r => (goOn r fun st => loopN fns m c st).All R := by simpa only [loopN, T.All_bind] using hh
      show ((xexec (callN fns (m + 1)) (loopN fns (m + 1)) c st).bind fun r => goOn r fun st => loopN fns (m + 1) c st).All R
      rw [T.All_bind]
      refine T.All.mono (fun r h => ?_) (xexec_mono ih.1 ih.2 hh')
      obtain ⟨e, st⟩ := r
      cases e <;> first | exact ih.2 _ _ _ h | exact h
theorem callN_le {m m' : Nat} (h : m ≤ m') : LE (callN fns m) (callN fns m') ∧ LEl (loopN fns m) (loopN fns m') := by
  induction h with
  | refl => exact ⟨fun _ _ _ _ h => h, fun _ _ _ h => h⟩
  | step _ ih => exact ⟨fun f vs h R hh => (callN_mono fns _).1 f vs h R (ih.1 f vs h R hh), fun c st R hh => (callN_mono fns _).2 c st R (ih.2 c st R hh)⟩
end

/-! ### From some depth on -/
def Ev {α : Type} (x : Nat → T α) (R : α → Prop) : Prop := ∃ m, (x m).All R
def Up {α : Type} (x : Nat → T α) : Prop := ∀ m m' R, m ≤ m' → (x m).All R → (x m').All R

section
variable {α β : Type}
theorem Ev.mono {x : Nat → T α} {R R' : α → Prop} (h : Ev x R) (k : ∀ a, R a → R' a) : Ev x R' := by obtain ⟨m, h⟩ := h; exact ⟨m, h.mono k⟩
theorem Ev_ret (a : α) (R : α → Prop) : Ev (fun _ => .ret a) R ↔ R a := ⟨fun ⟨_, h⟩ => h, fun h => ⟨0, h⟩⟩
theorem Ev_on {o : Option α} {f : Nat → α → T β} {R : β → Prop} : Ev (fun m => T.on o (f m)) R ↔ ∃ a, o = some a ∧ Ev (fun m => f m a) R := by
  constructor
  · intro ⟨m, h⟩
    obtain ⟨a, h1, h2⟩ := T.All_on.1 h
    exact ⟨a, h1, m, h2⟩
  · intro ⟨a, h1, m, h2⟩
    exact ⟨m, T.All_on.2 ⟨a, h1, h2⟩⟩
theorem All_unif {p : Nat → α → Prop} (hp : ∀ m m' a, m ≤ m' → p m a → p m' a) : ∀ {t : T α}, (t.All fun a => ∃ m, p m a) → ∃ m, t.All (p m)
  | .ret a, h => h
  | .fail, h => h.elim
  | .pick n k, h => by
    have : ∀ j, j ≤ n + 1 → ∃ m, ∀ d, d < j → (k d).All (p m) := by
      intro j
      induction j with
      | zero => intro _; exact ⟨0, fun d hd => absurd hd (by omega)⟩
      | succ j ih =>
        intro hj
        obtain ⟨m1, h1⟩ := ih (by omega)
        obtain ⟨m2, h2⟩ := All_unif hp (h j (by omega))
        refine ⟨max m1 m2, fun d hd => ?_⟩
        rcases Nat.lt_or_ge d j with h' | h'
        · exact T.All.mono (fun a h => hp _ _ a (Nat.le_max_left _ _) h) (h1 d h')
        · obtain rfl : d = j := by omega
          exact T.All.mono (fun a h => hp _ _ a (Nat.le_max_right _ _) h) h2
    obtain ⟨m, hm⟩ := this (n + 1) (Nat.le_refl _)
    exact ⟨m, fun d hd => hm d (by omega)⟩
theorem Ev_bind {x : Nat → T α} {f : Nat → α → T β} {R : β → Prop} (hx : Up x) (hf : ∀ a, Up fun m => f m a) : Ev (fun m => (x m).bind (f m)) R ↔ Ev x fun a => Ev (fun m => f m a) R := by
  constructor
  · intro ⟨m, h⟩
    exact ⟨m, T.All.mono (fun a h => ⟨m, h⟩) (T.All_bind.1 h)⟩
  · intro ⟨m, h⟩
    obtain ⟨m', h'⟩ := All_unif (p := fun m a => (f m a).All R) (fun _ _ a hm h => hf a _ _ _ hm h) h
    refine ⟨max m m', T.All_bind.2 ?_⟩
    refine hx _ _ _ (Nat.le_max_left _ _) ?_
    exact T.All.mono (fun a h => hf a _ _ _ (Nat.le_max_right m m') h) h'
end

section
variable (fns : FuncId → Option AFunc)
theorem up_call (f : FuncId) (vs : List AV) (h : H) : Up fun m => callN fns m f vs h := fun m m' R hm hh => (callN_le fns hm).1 _ _ _ _ hh
theorem up_loop (c : ACode) (st : St) : Up fun m => loopN fns m c st := fun m m' R hm hh => (callN_le fns hm).2 _ _ _ hh
theorem up_exec (c : ACode) (st : St) : Up fun m => xexec (callN fns m) (loopN fns m) c st := fun m m' R hm hh => xexec_mono (callN_le fns hm).1 (callN_le fns hm).2 hh
theorem up_ops (l : List AOper) (c : ACode) (st : St) : Up fun m => opsK (callN fns m) l st fun st => xexec (callN fns m) (loopN fns m) c st :=
  fun m m' R hm hh => opsK_mono (callN_le fns hm).1 (fun st h => up_exec fns c st m m' R hm h) hh

def CW (f : FuncId) (vs : List AV) (h : H) (R : AV × H → Prop) : Prop := Ev (fun m => callN fns m f vs h) R
def LoopR (c : ACode) (st : St) (R : Ex × St → Prop) : Prop := Ev (fun m => loopN fns m c st) R

open Classical in
noncomputable def callω (f : FuncId) (vs : List AV) (h : H) : Option (AV × H) := if hh : ∃ r, CW fns f vs h (· = r) then some hh.choose else none
open Classical in
noncomputable def callv0 (f : FuncId) (vs : List AV) (h : H) : Option AV := if hh : ∃ v, CW fns f vs h (fun q => noHeap h.n q = some v) then some hh.choose else none

theorem CW.and {f : FuncId} {vs : List AV} {h : H} {R R' : AV × H → Prop} (h1 : CW fns f vs h R) (h2 : CW fns f vs h R') : CW fns f vs h fun q => R q ∧ R' q := by
  obtain ⟨a, ha⟩ := h1; obtain ⟨b, hb⟩ := h2
  exact ⟨max a b, T.All.and (up_call fns f vs h a _ _ (Nat.le_max_left _ _) ha) (up_call fns f vs h b _ _ (Nat.le_max_right _ _) hb)⟩
theorem CW.ex {f : FuncId} {vs : List AV} {h : H} {R : AV × H → Prop} (h1 : CW fns f vs h R) : ∃ q, R q := by
  obtain ⟨a, ha⟩ := h1; exact ha.ex

theorem callω_spec {f : FuncId} {vs : List AV} {h : H} {r : AV × H} : callω fns f vs h = some r ↔ CW fns f vs h (· = r) := by
  unfold callω
  constructor
  · intro h
    split at h
    · rename_i hh; injection h with h; rw [← h]; exact hh.choose_spec
    · cases h
  · intro h
    have hh : ∃ r, CW fns f vs _ (· = r) := ⟨r, h⟩
    rw [dif_pos hh]
    obtain ⟨q, h1, h2⟩ := ((hh.choose_spec).and fns h).ex
    rw [← h1, h2]
theorem CW_det {f : FuncId} {vs : List AV} {h : H} {r : AV × H} (he : callω fns f vs h = some r) (R : AV × H → Prop) : CW fns f vs h R ↔ R r := by
  have h1 := (callω_spec fns).1 he
  constructor
  · intro h2
    obtain ⟨q, h3, h4⟩ := (h1.and fns h2).ex
    rw [← h3]; exact h4
  · intro h2
    exact Ev.mono h1 fun q hq => by rw [hq]; exact h2
theorem callv0_spec {f : FuncId} {vs : List AV} {h : H} {v : AV} : callv0 fns f vs h = some v ↔ CW fns f vs h (fun q => noHeap h.n q = some v) := by
  unfold callv0
  constructor
  · intro h
    split at h
    · rename_i hh; injection h with h; rw [← h]; exact hh.choose_spec
    · cases h
  · intro h
    have hh : ∃ v, CW fns f vs _ (fun q => noHeap _ q = some v) := ⟨v, h⟩
    rw [dif_pos hh]
    obtain ⟨q, h1, h2⟩ := ((hh.choose_spec).and fns h).ex
    exact h1.symm.trans h2
noncomputable def callv (f : FuncId) (vs : List AV) (h : H) : Option AV := (callω fns f vs h).elim (callv0 fns f vs h) (noHeap h.n)
theorem callv_spec {f : FuncId} {vs : List AV} {h : H} {v : AV} : callv fns f vs h = some v ↔ CW fns f vs h (fun q => noHeap h.n q = some v) := by
  unfold callv
  cases he : callω fns f vs h with
  | none => exact callv0_spec fns
  | some q => exact (CW_det fns he (fun q => noHeap h.n q = some v)).symm

theorem CW_of {f : FuncId} {af : AFunc} (hf : fns f = some af) {vs : List AV} {h0 : H} (hl : vs.length ≤ af.n) (hx : af.x vs h0 = none) {R : AV × H → Prop} (h : Ev (fun m => xbody (callN fns m) (loopN fns m) af vs h0) R) : CW fns f vs h0 R := by
  obtain ⟨m, hm⟩ := h
  refine ⟨m + 1, ?_⟩
  simp only [callN, T.All_on]
  exact ⟨af, hf, by rw [if_pos hl, hx]; exact hm⟩
theorem LoopR_of {c : ACode} {st : St} {R : Ex × St → Prop} (h : Ev (fun m => xexec (callN fns m) (loopN fns m) c st) fun r => Ev (fun m => goOn r fun st => loopN fns m c st) R) : LoopR fns c st R := by
  have hup : ∀ r : Ex × St, Up fun m => goOn r fun st => loopN fns m c st := fun r => by
    obtain ⟨e, st⟩ := r
    cases e <;> first | exact up_loop fns c st | exact fun _ _ _ _ h => h
  obtain ⟨m, hm⟩ := (Ev_bind (up_exec fns c st) hup).2 h
  exact ⟨m + 1, hm⟩
end

end Go.Proofs.YtjlioidknhdceaaDoor.Abs
