/- A23, A24, A25 -/
import Derived.Test.YtcodfehgnjplcaaGreatDoorA22
import Derived.ChangeArms
import Derived.DataReads
import Derived.SizedLaws
import Derived.Below
import Derived.Carry
import Derived.ChangeShapes
/- The interpreter at its limit: what holds from some depth on. -/
namespace Go.Proofs.YtcodfehgnjplcaaGreatDoor.Abs
set_option linter.all false
set_option linter.unusedVariables false

/-! ### More depth, no fewer outcomes -/
def LE (cl cl' : FuncId → List AV → H → T (AV × H)) : Prop := ∀ f vs h R, (cl f vs h).All R → (cl' f vs h).All R
def LEl (lp lp' : ACode → St → T (Ex × St)) : Prop := ∀ c st R, (lp c st).All R → (lp' c st).All R

section
variable {β : Type} {cl cl' : FuncId → List AV → H → T (AV × H)} {lp lp' : ACode → St → T (Ex × St)}
theorem fillK_mono {R : β → Prop} : ∀ {l : List (Nat × Nat × AX)} {cs : List AV} {st : St} {k k' : List AV → St → T β}, (∀ cs st, (k cs st).All R → (k' cs st).All R) → (fillK l cs st k).All R → (fillK l cs st k').All R
  | [], cs, st, k, k', hk, h => hk _ _ h
  | (off, n, x) :: l, cs, st, k, k', hk, h => by
    simp only [fillK, T.All_on] at h ⊢
    obtain ⟨cs1, h1, h2⟩ := h
    exact ⟨cs1, h1, fillK_mono hk h2⟩
theorem argsK_mono {R : β → Prop} : ∀ {l : List (AX × Bool)} {st : St} {k k' : List AV → St → T β}, (∀ vs st, (k vs st).All R → (k' vs st).All R) → (argsK l st k).All R → (argsK l st k').All R
  | [], st, k, k', hk, h => hk _ _ h
  | (x, true) :: l, st, k, k', hk, h => by
    simp only [argsK, T.All_on] at h ⊢
    obtain ⟨u, h1, h2⟩ := h
    exact ⟨u, h1, argsK_mono (fun _ _ => hk _ _) h2⟩
  | (x, false) :: l, st, k, k', hk, h => by
    simp only [argsK, T.All_on] at h ⊢
    obtain ⟨u, h1, h2⟩ := h
    exact ⟨u, h1, argsK_mono (fun _ _ => hk _ _) h2⟩
theorem opK_mono (hc : LE cl cl') {R : β → Prop} {x : AOp} {st : St} {k k' : AV → St → T β} (hk : ∀ v st, (k v st).All R → (k' v st).All R) (h : (opK cl x st k).All R) : (opK cl' x st k').All R := by
  cases x
  case call f args =>
    simp only [opK] at h ⊢
    refine argsK_mono (fun vs st h => ?_) h
    simp only [T.All_bind, T.All_on] at h ⊢
    exact T.All.mono (fun q ⟨v, h1, h2⟩ => ⟨v, h1, hk _ _ h2⟩) (hc _ _ _ _ h)
  case hcall f args =>
    simp only [opK] at h ⊢
    refine argsK_mono (fun vs st h => ?_) h
    simp only [T.All_bind] at h ⊢
    exact T.All.mono (fun q h2 => hk _ _ h2) (hc _ _ _ _ h)
  case dcall hc' tbl x args =>
    simp only [opK] at h ⊢
    refine argsK_mono (fun vs st h => ?_) h
    simp only [T.All_on] at h ⊢
    obtain ⟨q, h1, h⟩ := h
    refine ⟨q, h1, ?_⟩
    cases hc' with
    | true =>
      simp only [T.All_bind] at h ⊢
      exact T.All.mono (fun q h2 => hk _ _ h2) (hc _ _ _ _ h)
    | false =>
      simp only [T.All_bind, T.All_on] at h ⊢
      exact T.All.mono (fun q ⟨v, h1, h2⟩ => ⟨v, h1, hk _ _ h2⟩) (hc _ _ _ _ h)
  case newbox1 d cs =>
    simp only [opK] at h ⊢
    split at h
    · exact hk _ _ h
    · exact h.elim
  case range d x =>
    simp only [opK, T.All_on] at h ⊢
    obtain ⟨v, h1, h2⟩ := h
    refine ⟨v, h1, ?_⟩
    cases v <;> first | exact hk _ _ h2 | exact h2
  all_goals simp only [opK, T.All_on, T.All_bind] at h ⊢
  all_goals first
    | exact hk _ _ h
    | (obtain ⟨v, h1, h2⟩ := h; exact ⟨v, h1, hk _ _ h2⟩)
    | exact fillK_mono (fun _ _ => hk _ _) h
    | exact T.All.mono (fun q h2 => hk _ _ h2) h
    | exact h
theorem opsK_mono (hc : LE cl cl') {R : β → Prop} : ∀ {l : List AOper} {st : St} {k k' : St → T β}, (∀ st, (k st).All R → (k' st).All R) → (opsK cl l st k).All R → (opsK cl' l st k').All R
  | [], st, k, k', hk, h => hk _ h
  | o :: l, st, k, k', hk, h => by
    cases hg : o.guard with
    | none =>
      simp only [opsK, hg] at h ⊢
      exact opK_mono hc (fun v st h => opsK_mono hc hk h) h
    | some g =>
      obtain ⟨d, want⟩ := g
      simp only [opsK, hg, T.All_bind] at h ⊢
      refine T.All.mono (fun st h => opsK_mono hc hk h) ?_
      unfold onGuard at h ⊢
      split at h
      · split at h
        · rename_i b _ hb; rw [if_pos hb]; exact opK_mono hc (fun _ _ h => h) h
        · rename_i b _ hb; rw [if_neg hb]; exact h
      · exact h
      · exact h
theorem xexec_mono (hc : LE cl cl') (hl : LEl lp lp') : ∀ {c : ACode} {st : St} {R : Ex × St → Prop}, (xexec cl lp c st).All R → (xexec cl' lp' c st).All R := by
  intro c
  induction c with
  | skip => intro st R h; exact h
  | ops l k ih => intro st R h; simp only [xexec] at h ⊢; exact opsK_mono hc (fun st h => ih h) h
  | seq a k iha ihk =>
    intro st R h
    simp only [xexec, T.All_bind] at h ⊢
    refine T.All.mono (fun r h => ?_) (iha h)
    obtain ⟨e, st⟩ := r
    cases e <;> first | exact ihk h | exact h
  | cond c a b iha ihb =>
    intro st R h
    simp only [xexec] at h ⊢
    unfold onBool at h ⊢
    split at h
    · exact iha h
    · exact ihb h
    · exact h
  | block id a ih => intro st R h; simp only [xexec, T.All_bind] at h ⊢; exact ih h
  | loop a ih => intro st R h; exact hl _ _ _ h
  | exit id => intro st R h; exact h
  | ret => intro st R h; exact h
end

section
variable (fns : FuncId → Option AFunc)
theorem callN_mono : ∀ m, LE (callN fns m) (callN fns (m + 1)) ∧ LEl (loopN fns m) (loopN fns (m + 1)) := by
  intro m
  induction m with
  | zero => exact ⟨fun _ _ _ _ h => h.elim, fun _ _ _ h => h.elim⟩
  | succ m ih =>
    refine ⟨fun f vs h R hh => ?_, fun c st R hh => ?_⟩
    · simp only [callN, T.All_on] at hh ⊢
      obtain ⟨af, h1, h2⟩ := hh
      refine ⟨af, h1, ?_⟩
      split at h2
      · rename_i hle
        rw [if_pos hle]
        split at h2
        · rename_i v hv
          exact h2
        · rename_i hv
          simp only [xbody, T.All_bind] at h2 ⊢
          have := xexec_mono ih.1 ih.2 h2
          simp only [callN] at this ⊢
          exact this
      · exact h2.elim
    · have hh' : (xexec (callN fns m) (loopN fns m) c st).All fun r => (goOn r fun st => loopN fns m c st).All R := by simpa only [loopN, T.All_bind] using hh
      show ((xexec (callN fns (m + 1)) (loopN fns (m + 1)) c st).bind fun r => goOn r fun st => loopN fns (m + 1) c st).All R
      rw [T.All_bind]
      refine T.All.mono (fun r h => ?_) (xexec_mono ih.1 ih.2 hh')
      obtain ⟨e, st⟩ := r
      cases e <;> first | exact ih.2 _ _ _ h | exact h
theorem callN_le {m m' : Nat} (h : m ≤ m') : LE (callN fns m) (callN fns m') ∧ LEl (loopN fns m) (loopN fns m') := by
  induction h with
  | refl => exact ⟨fun _ _ _ _ h => h, fun _ _ _ h => h⟩
  | step _ ih => exact ⟨fun f vs h R hh => (callN_mono fns _).1 f vs h R (ih.1 f vs h R hh), fun c st R hh => (callN_mono fns _).2 c st R (ih.2 c st R hh)⟩
end

/-! ### From some depth on -/
def Ev {α : Type} (x : Nat → T α) (R : α → Prop) : Prop := ∃ m, (x m).All R
def Up {α : Type} (x : Nat → T α) : Prop := ∀ m m' R, m ≤ m' → (x m).All R → (x m').All R

section
variable {α β : Type}
theorem Ev.mono {x : Nat → T α} {R R' : α → Prop} (h : Ev x R) (k : ∀ a, R a → R' a) : Ev x R' := by obtain ⟨m, h⟩ := h; exact ⟨m, h.mono k⟩
theorem Ev_ret (a : α) (R : α → Prop) : Ev (fun _ => .ret a) R ↔ R a := ⟨fun ⟨_, h⟩ => h, fun h => ⟨0, h⟩⟩
theorem Ev_fail (R : α → Prop) : Ev (fun _ => (.fail : T α)) R ↔ False := ⟨fun ⟨_, h⟩ => h, fun h => h.elim⟩
theorem Ev_on {o : Option α} {f : Nat → α → T β} {R : β → Prop} : Ev (fun m => T.on o (f m)) R ↔ ∃ a, o = some a ∧ Ev (fun m => f m a) R := by
  constructor
  · intro ⟨m, h⟩
    obtain ⟨a, h1, h2⟩ := T.All_on.1 h
    exact ⟨a, h1, m, h2⟩
  · intro ⟨a, h1, m, h2⟩
    exact ⟨m, T.All_on.2 ⟨a, h1, h2⟩⟩
theorem All_unif {p : Nat → α → Prop} (hp : ∀ m m' a, m ≤ m' → p m a → p m' a) : ∀ {t : T α}, (t.All fun a => ∃ m, p m a) → ∃ m, t.All (p m)
  | .ret a, h => h
  | .fail, h => h.elim
  | .pick n k, h => by
    have : ∀ j, j ≤ n + 1 → ∃ m, ∀ d, d < j → (k d).All (p m) := by
      intro j
      induction j with
      | zero => intro _; exact ⟨0, fun d hd => absurd hd (by omega)⟩
      | succ j ih =>
        intro hj
        obtain ⟨m1, h1⟩ := ih (by omega)
        obtain ⟨m2, h2⟩ := All_unif hp (h j (by omega))
        refine ⟨max m1 m2, fun d hd => ?_⟩
        rcases Nat.lt_or_ge d j with h' | h'
        · exact T.All.mono (fun a h => hp _ _ a (Nat.le_max_left _ _) h) (h1 d h')
        · obtain rfl : d = j := by omega
          exact T.All.mono (fun a h => hp _ _ a (Nat.le_max_right _ _) h) h2
    obtain ⟨m, hm⟩ := this (n + 1) (Nat.le_refl _)
    exact ⟨m, fun d hd => hm d (by omega)⟩
theorem Ev_bind {x : Nat → T α} {f : Nat → α → T β} {R : β → Prop} (hx : Up x) (hf : ∀ a, Up fun m => f m a) : Ev (fun m => (x m).bind (f m)) R ↔ Ev x fun a => Ev (fun m => f m a) R := by
  constructor
  · intro ⟨m, h⟩
    exact ⟨m, T.All.mono (fun a h => ⟨m, h⟩) (T.All_bind.1 h)⟩
  · intro ⟨m, h⟩
    obtain ⟨m', h'⟩ := All_unif (p := fun m a => (f m a).All R) (fun _ _ a hm h => hf a _ _ _ hm h) h
    refine ⟨max m m', T.All_bind.2 ?_⟩
    refine hx _ _ _ (Nat.le_max_left _ _) ?_
    exact T.All.mono (fun a h => hf a _ _ _ (Nat.le_max_right m m') h) h'
theorem Ev_bindc {t : T α} {f : Nat → α → T β} {R : β → Prop} (hf : ∀ a, Up fun m => f m a) : Ev (fun m => t.bind (f m)) R ↔ t.All fun a => Ev (fun m => f m a) R := by
  rw [Ev_bind (x := fun _ => t) (fun _ _ _ _ h => h) hf]
  exact ⟨fun ⟨_, h⟩ => h, fun h => ⟨0, h⟩⟩
end

section
variable (fns : FuncId → Option AFunc)
theorem up_call (f : FuncId) (vs : List AV) (h : H) : Up fun m => callN fns m f vs h := fun m m' R hm hh => (callN_le fns hm).1 _ _ _ _ hh
theorem up_loop (c : ACode) (st : St) : Up fun m => loopN fns m c st := fun m m' R hm hh => (callN_le fns hm).2 _ _ _ hh
theorem up_exec (c : ACode) (st : St) : Up fun m => xexec (callN fns m) (loopN fns m) c st := fun m m' R hm hh => xexec_mono (callN_le fns hm).1 (callN_le fns hm).2 hh
theorem up_ops (l : List AOper) (c : ACode) (st : St) : Up fun m => opsK (callN fns m) l st fun st => xexec (callN fns m) (loopN fns m) c st :=
  fun m m' R hm hh => opsK_mono (callN_le fns hm).1 (fun st h => up_exec fns c st m m' R hm h) hh

def CW (f : FuncId) (vs : List AV) (h : H) (R : AV × H → Prop) : Prop := Ev (fun m => callN fns m f vs h) R
def LoopR (c : ACode) (st : St) (R : Ex × St → Prop) : Prop := Ev (fun m => loopN fns m c st) R

open Classical in
noncomputable def callω (f : FuncId) (vs : List AV) (h : H) : Option (AV × H) := if hh : ∃ r, CW fns f vs h (· = r) then some hh.choose else none
open Classical in
noncomputable def callv0 (f : FuncId) (vs : List AV) (h : H) : Option AV := if hh : ∃ v, CW fns f vs h (fun q => noHeap h.n q = some v) then some hh.choose else none

theorem CW.and {f : FuncId} {vs : List AV} {h : H} {R R' : AV × H → Prop} (h1 : CW fns f vs h R) (h2 : CW fns f vs h R') : CW fns f vs h fun q => R q ∧ R' q := by
  obtain ⟨a, ha⟩ := h1; obtain ⟨b, hb⟩ := h2
  exact ⟨max a b, T.All.and (up_call fns f vs h a _ _ (Nat.le_max_left _ _) ha) (up_call fns f vs h b _ _ (Nat.le_max_right _ _) hb)⟩
theorem CW.ex {f : FuncId} {vs : List AV} {h : H} {R : AV × H → Prop} (h1 : CW fns f vs h R) : ∃ q, R q := by
  obtain ⟨a, ha⟩ := h1; exact ha.ex

theorem callω_spec {f : FuncId} {vs : List AV} {h : H} {r : AV × H} : callω fns f vs h = some r ↔ CW fns f vs h (· = r) := by
  unfold callω
  constructor
  · intro h
    split at h
    · rename_i hh; injection h with h; rw [← h]; exact hh.choose_spec
    · cases h
  · intro h
    have hh : ∃ r, CW fns f vs _ (· = r) := ⟨r, h⟩
    rw [dif_pos hh]
    obtain ⟨q, h1, h2⟩ := ((hh.choose_spec).and fns h).ex
    rw [← h1, h2]
theorem CW_det {f : FuncId} {vs : List AV} {h : H} {r : AV × H} (he : callω fns f vs h = some r) (R : AV × H → Prop) : CW fns f vs h R ↔ R r := by
  have h1 := (callω_spec fns).1 he
  constructor
  · intro h2
    obtain ⟨q, h3, h4⟩ := (h1.and fns h2).ex
    rw [← h3]; exact h4
  · intro h2
    exact Ev.mono h1 fun q hq => by rw [hq]; exact h2
theorem callv0_spec {f : FuncId} {vs : List AV} {h : H} {v : AV} : callv0 fns f vs h = some v ↔ CW fns f vs h (fun q => noHeap h.n q = some v) := by
  unfold callv0
  constructor
  · intro h
    split at h
    · rename_i hh; injection h with h; rw [← h]; exact hh.choose_spec
    · cases h
  · intro h
    have hh : ∃ v, CW fns f vs _ (fun q => noHeap _ q = some v) := ⟨v, h⟩
    rw [dif_pos hh]
    obtain ⟨q, h1, h2⟩ := ((hh.choose_spec).and fns h).ex
    exact h1.symm.trans h2
noncomputable def callv (f : FuncId) (vs : List AV) (h : H) : Option AV := (callω fns f vs h).elim (callv0 fns f vs h) (noHeap h.n)
theorem callv_spec {f : FuncId} {vs : List AV} {h : H} {v : AV} : callv fns f vs h = some v ↔ CW fns f vs h (fun q => noHeap h.n q = some v) := by
  unfold callv
  cases he : callω fns f vs h with
  | none => exact callv0_spec fns
  | some q => exact (CW_det fns he (fun q => noHeap h.n q = some v)).symm

theorem CW_of {f : FuncId} {af : AFunc} (hf : fns f = some af) {vs : List AV} {h0 : H} (hl : vs.length ≤ af.n) (hx : af.x vs h0 = none) {R : AV × H → Prop} (h : Ev (fun m => xbody (callN fns m) (loopN fns m) af vs h0) R) : CW fns f vs h0 R := by
  obtain ⟨m, hm⟩ := h
  refine ⟨m + 1, ?_⟩
  simp only [callN, T.All_on]
  exact ⟨af, hf, by rw [if_pos hl, hx]; exact hm⟩
theorem CW_x {f : FuncId} {af : AFunc} (hf : fns f = some af) {vs : List AV} {h0 : H} (hl : vs.length ≤ af.n) {v : AV} (hx : af.x vs h0 = some v) {R : AV × H → Prop} (h : R (v, h0)) : CW fns f vs h0 R := by
  refine ⟨1, ?_⟩
  simp only [callN, T.All_on]
  exact ⟨af, hf, by rw [if_pos hl, hx]; exact h⟩
theorem callω_x {f : FuncId} {af : AFunc} (hf : fns f = some af) {vs : List AV} {h0 : H} (hl : vs.length ≤ af.n) {v : AV} (hx : af.x vs h0 = some v) : callω fns f vs h0 = some (v, h0) :=
  (callω_spec fns).2 (CW_x fns hf hl hx rfl)
theorem LoopR_of {c : ACode} {st : St} {R : Ex × St → Prop} (h : Ev (fun m => xexec (callN fns m) (loopN fns m) c st) fun r => Ev (fun m => goOn r fun st => loopN fns m c st) R) : LoopR fns c st R := by
  have hup : ∀ r : Ex × St, Up fun m => goOn r fun st => loopN fns m c st := fun r => by
    obtain ⟨e, st⟩ := r
    cases e <;> first | exact up_loop fns c st | exact fun _ _ _ _ h => h
  obtain ⟨m, hm⟩ := (Ev_bind (up_exec fns c st) hup).2 h
  exact ⟨m + 1, hm⟩
end

theorem CW_sound {P : Program} {sg : FuncId → Nat → Nat} {fns : FuncId → Option AFunc} (hfn : FnsOk P sg fns) (hm : P.follows .mixedOrders = true) {f : FuncId} {vs : List AV} {h0 : H} {R : AV × H → Prop} (hc : CW fns f vs h0 R) :
    ∃ m, (callN fns m f vs h0).All R := hc

end Go.Proofs.YtcodfehgnjplcaaGreatDoor.Abs

/- What a law's reading of its arguments says, as abstract values. -/
namespace Go.Proofs.YtcodfehgnjplcaaGreatDoor.Abs
set_option linter.all false
set_option linter.unusedVariables false

def laidFrom (P : Program) : List Field → Nat → Option Nat
  | [], o => some o
  | f :: r, o => if f.offset = o then laidFrom P r (o + P.cellsOf f.type) else none

def closedB (P : Program) (T : List TypeId) : Bool :=
  T.all fun t => match P.underlying t with
    | some .bool => true
    | some (.int _) => true
    | some .string => true
    | some (.slice e) => T.contains e && decide (0 < P.cellsOf e) && decide (0 < P.bytesOf e)
    | some (.struct fs) => (fs.toList.all fun f => T.contains f.type) && (laidFrom P fs.toList 0 == some (P.cellsOf t))
    | _ => false

def fitsFields (F : TypeId → List AV → Prop) : List Field → List AV → Prop
  | [], xs => xs = []
  | f :: r, xs => ∃ p q, xs = p ++ q ∧ F f.type p ∧ fitsFields F r q

def FitsC (P : Program) : Nat → TypeId → List AV → Prop
  | 0, _, _ => False
  | k + 1, t, xs =>
    match P.underlying t with
    | some .bool => ∃ b, xs = [.bool b]
    | some (.int i) => ∃ n, xs = [.int i n] ∧ i.min ≤ n ∧ n ≤ i.max
    | some .string => ∃ s, xs = [.str s] ∧ s.length ≤ reachBytes
    | some (.slice e) => xs = [.slice .nil 0 1 []] ∨ ∃ rows : List (List AV), xs = [.slice .frz e (P.cellsOf e) rows.flatten] ∧ rows.length ≤ reachBytes ∧ ∀ r ∈ rows, r.length = P.cellsOf e ∧ FitsC P k e r
    | some (.struct fs) => fitsFields (FitsC P k) fs.toList xs
    | _ => False

def allF (w : World) (b : Nat) : Nat :=
  match w.heap[b]? with
  | some (.cells vs _ _) => vs.size
  | _ => 0

theorem allF_lt {w : World} {b o : Nat} {v : Value} (h : w.cell? ⟨b, o, none⟩ = some v) : o < allF w b := by
  unfold World.cell? at h
  unfold allF
  split at h
  · rename_i c e fz hb
    simp only at hb
    rw [hb]
    simp at h
    exact (Array.getElem?_eq_some_iff.1 h).1
  · cases h

theorem allF_new (w : World) : ∀ b, w.heap.size ≤ b → allF w b = 0 := by
  intro b hb
  unfold allF
  rw [Array.getElem?_eq_none (by omega)]

theorem cell_spot {w : World} {a : Addr} {v : Value} (h : w.cell? a = some v) : a.spot = none := by
  unfold World.cell? at h
  split at h
  · cases hs : a.spot with
    | none => rfl
    | some x => rw [hs] at h; simp at h
  · cases h

theorem add_zero' (a : Addr) : a.add 0 = a := by unfold Addr.add; simp

section
variable {H : Type} {enc : TypeId × Value → H} {P : Program} {w : World} {base : Nat} {spare : Nat → Bool} {held : Bool} {F : FT}

def CellsR (w : World) (F : FT) (xs : List AV) (cs : List Value) : Prop :=
  cs.length = xs.length ∧ ∀ i (h : i < xs.length) (h' : i < cs.length), (cs[i]).oneCell' = true ∧ CR w F xs[i] cs[i]

theorem CellsR.nil : CellsR w F [] [] := ⟨rfl, fun i h => absurd h (by simp)⟩
theorem CellsR.one {x : AV} {v : Value} (h1 : v.oneCell' = true) (h2 : CR w F x v) : CellsR w F [x] [v] :=
  ⟨rfl, fun i h h' => by obtain rfl : i = 0 := (by simpa using h); exact ⟨h1, h2⟩⟩
theorem CellsR.append {xs ys : List AV} {cs ds : List Value} (h : CellsR w F xs cs) (k : CellsR w F ys ds) : CellsR w F (xs ++ ys) (cs ++ ds) := by
  refine ⟨by simp [h.1, k.1], fun i hi hi' => ?_⟩
  by_cases hc : i < cs.length
  · rw [List.getElem_append_left hc, List.getElem_append_left (by rw [← h.1]; exact hc)]
    exact h.2 i (by rw [← h.1]; exact hc) hc
  · rw [List.getElem_append_right (by omega), List.getElem_append_right (by rw [← h.1]; omega)]
    simp only [List.length_append] at hi
    have := k.2 (i - cs.length) (by have := h.1; omega) (by simp only [List.length_append] at hi'; omega)
    simpa only [h.1] using this

theorem fields_read {k : Nat} {cs : List Value} (hread : ∀ (f : Field) (ds : List Value), ds.length = P.cellsOf f.type → ds = ((cs.drop f.offset).take (P.cellsOf f.type)) → True) :
    ∀ {fs : List Field} {o : Nat}, laidFrom P fs o = some cs.length → (∀ f ∈ fs, ∃ xs, CellsR w F xs ((cs.drop f.offset).take (P.cellsOf f.type)) ∧ FitsC P k f.type xs) →
    o ≤ cs.length ∧ ∃ xs, CellsR w F xs (cs.drop o) ∧ fitsFields (FitsC P k) fs xs := by
  intro fs
  induction fs with
  | nil =>
    intro o hl _
    simp only [laidFrom, Option.some.injEq] at hl
    subst hl
    exact ⟨Nat.le_refl _, [], by rw [List.drop_length]; exact CellsR.nil, rfl⟩
  | cons f fs ih =>
    intro o hl hf
    simp only [laidFrom] at hl
    split at hl
    · rename_i ho
      obtain ⟨h1, xs, h2, h3⟩ := ih hl (fun f hm => hf f (List.mem_cons_of_mem _ hm))
      obtain ⟨ys, h4, h5⟩ := hf f (List.mem_cons_self)
      refine ⟨by omega, ys ++ xs, ?_, ys, xs, rfl, h5, h3⟩
      rw [ho] at h4
      have := h4.append h2
      rwa [← List.drop_drop, List.take_append_drop] at this
    · cases hl

theorem weights_mem_all {t : TypeId} {d : DataW H} {n : Nat} (hn : n ∈ d.weights P t) : ∀ {l : List (DataW H)}, d ∈ l → n ∈ DataW.weightsAll P t l
  | a :: l, hd => by
    simp only [DataW.weightsAll, List.mem_append]
    rcases List.mem_cons.1 hd with h | h
    · subst h; exact .inl hn
    · exact .inr (weights_mem_all hn h)

theorem read_sound (hF : ∀ b o v, w.cell? ⟨b, o, none⟩ = some v → o < F b) {T : List TypeId} (hT : closedB P T = true) : ∀ {fuel : Nat} {t : TypeId} {cs : List Value} {x : DataW H × List MemPlace}, t ∈ T →
    DataW.trod enc P w base spare held fuel t cs = some x → (∀ n ∈ x.1.weights P t, n ≤ reachBytes) → ∃ xs, CellsR w F xs cs ∧ FitsC P fuel t xs := by
  intro fuel
  induction fuel with
  | zero => intro t cs x _ h; simp [DataW.trod] at h
  | succ k ih =>
    intro t cs x ht h hz
    have hc := List.all_eq_true.1 hT t ht
    simp only [FitsC]
    cases hu : P.underlying t with
    | none => rw [hu] at hc; cases hc
    | some d =>
      rw [hu] at hc
      cases d with
      | bool =>
        obtain ⟨b, rfl, _⟩ := DataW.trod_bool hu h
        exact ⟨[.bool b], CellsR.one rfl (.bool b), b, rfl⟩
      | int i =>
        obtain ⟨n, rfl, _, hw⟩ := DataW.trod_int hu h
        simp only [Lit.wf, Bool.and_eq_true, decide_eq_true_eq] at hw
        exact ⟨[.int i n], CellsR.one rfl (.int i n), n, rfl, hw⟩
      | string =>
        obtain ⟨s, rfl, hx, hs⟩ := DataW.trod_string hu h
        subst hx
        exact ⟨[.str s.data.toList], CellsR.one rfl (.str s _ rfl), s.data.toList, rfl, hz _ (by simp [DataW.weights])⟩
      | slice e =>
        simp only [Bool.and_eq_true, decide_eq_true_eq, List.contains_iff_mem] at hc
        obtain ⟨⟨hce, hpos⟩, hbpos⟩ := hc
        rcases DataW.trod_slice hu h with ⟨rfl, _⟩ | ⟨a, len, cap, elems, rest, m, hm, rfl, hxe, hb, hlc, hcm, hlen, hel, _, _⟩
        · exact ⟨[.slice .nil 0 1 []], CellsR.one rfl (.nil 0 1), .inl rfl⟩
        · obtain rfl : m = k := (by omega)
          subst hxe
          simp only [DataW.weights, hu, List.mem_cons, List.mem_append, List.length_map] at hz
          have hlr : len ≤ reachBytes := by
            have h1 := hz _ (.inl rfl)
            rw [hlen] at h1
            exact Nat.le_trans (Nat.le_trans (Nat.le_add_right len rest.length) (Nat.le_mul_of_pos_right _ hbpos)) h1
          have key : ∀ j, j ≤ len → ∃ rows : List (List AV), rows.length = j ∧ (∀ r ∈ rows, r.length = P.cellsOf e ∧ FitsC P m e r) ∧ rows.flatten.length = j * P.cellsOf e ∧
              ∃ ds, CellsR w F rows.flatten ds ∧ ∀ i v, ds[i]? = some v → w.cell? (a.add i) = some v := by
            intro j
            induction j with
            | zero => intro _; exact ⟨[], rfl, fun r hr => (by cases hr), by simp, [], CellsR.nil, fun i v hv => by simp at hv⟩
            | succ j ihj =>
              intro hj
              obtain ⟨rows, h1, h2, h3, ds, h4, h5⟩ := ihj (by omega)
              have he := hel j (by omega)
              rw [List.getElem?_eq_getElem (by omega)] at he
              obtain ⟨cs', hcs, htr⟩ := Option.bind_eq_some_iff.1 he
              obtain ⟨_, hcl, hcell⟩ := World.cells?_some hcs
              obtain ⟨xs, hx1, hx2⟩ := ih hce htr (fun n hn => hz n (.inr (.inl (weights_mem_all hn (List.mem_map_of_mem (List.getElem_mem _))))))
              have hdl : ds.length = j * P.cellsOf e := by rw [h4.1, h3]
              refine ⟨rows ++ [xs], by simp [h1], fun r hr => ?_, by simp [h3, ← hx1.1, hcl, Nat.succ_mul], ds ++ cs', by simpa using h4.append hx1, fun i v hv => ?_⟩
              · rcases List.mem_append.1 hr with hr | hr
                · exact h2 r hr
                · simp only [List.mem_singleton] at hr; subst hr; exact ⟨by rw [← hx1.1, hcl], hx2⟩
              · by_cases hi : i < ds.length
                · rw [List.getElem?_append_left hi] at hv; exact h5 i v hv
                · rw [List.getElem?_append_right (by omega)] at hv
                  have hi2 : i - ds.length < P.cellsOf e := by rw [← hcl]; exact (List.getElem?_eq_some_iff.1 hv).1
                  have := hcell (i - ds.length) hi2
                  rw [hv] at this
                  rw [← this, hdl]
                  have hadd : (a.add (j * P.cellsOf e)).add (i - j * P.cellsOf e) = a.add i := by
                    have : i = j * P.cellsOf e + (i - j * P.cellsOf e) := by omega
                    conv => rhs; rw [this]
                    unfold Addr.add
                    by_cases h1 : j * P.cellsOf e = 0 <;> by_cases h2 : i - j * P.cellsOf e = 0 <;> simp [h1, h2, Nat.add_assoc]
                  rw [hadd]
          obtain ⟨rows, h1, h2, h3, ds, h4, h5⟩ := key len (Nat.le_refl _)
          refine ⟨[.slice .frz e (P.cellsOf e) rows.flatten], CellsR.one rfl ?_, .inr ⟨rows, rfl, by rw [h1]; exact hlr, h2⟩⟩
          have hsp : 0 < rows.flatten.length → a.spot = none := fun hp => by
            have hd0 : 0 < ds.length := by rw [h4.1]; exact hp
            have := h5 0 ds[0] (List.getElem?_eq_getElem hd0)
            rw [add_zero'] at this
            exact cell_spot this
          have hcell : ∀ i (hi : i < rows.flatten.length), w.cell? ⟨a.block, a.off + i, none⟩ = some (ds.getD i undef) := fun i hi => by
            have hi' : i < ds.length := by rw [h4.1]; exact hi
            have := h5 i ds[i] (List.getElem?_eq_getElem hi')
            rw [add_off a (hsp (by omega))] at this
            rw [this]; simp [List.getD, List.getElem?_eq_getElem hi']
          refine .frz e _ len cap a _ (fun i => ds.getD i undef) hsp hpos h3 hlc (fun i hi => hF _ _ _ (hcell i hi)) hcell (fun i hi => ?_) (fun i hi => ?_)
          · have hi' : i < ds.length := by rw [h4.1]; exact hi
            have := (h4.2 i hi hi').1
            simpa [List.getD, List.getElem?_eq_getElem hi'] using this
          · have hi' : i < ds.length := by rw [h4.1]; exact hi
            have := (h4.2 i hi hi').2
            simpa [List.getD, List.getElem?_eq_getElem hi'] using this
      | struct fs =>
        simp only [Bool.and_eq_true, beq_iff_eq, List.all_eq_true, List.contains_iff_mem] at hc
        obtain ⟨hcf, hlaid⟩ := hc
        obtain ⟨xs, m, hm, hxe, hcl, hxl, hfields⟩ := DataW.trod_struct hu h
        obtain rfl : m = k := (by omega)
        subst hxe
        simp only [DataW.weights, hu] at hz
        rw [← hcl] at hlaid
        obtain ⟨_, ys, h1, h2⟩ := fields_read (P := P) (w := w) (F := F) (k := m) (cs := cs) (fun _ _ _ _ => trivial) hlaid (fun f hf => by
          obtain ⟨i, hi, hif⟩ := List.getElem_of_mem hf
          have hif' : fs[i]? = some f := by
            rw [← hif]; simp
          have := hfields i f hif'
          have hxi : i < xs.length := by
            rw [hxl]; simpa using hi
          rw [List.getElem?_eq_getElem hxi] at this
          refine ih (hcf f hf) this (fun n hn => hz n ?_)
          refine DataW.weights_mem_each (j := i) (t := f.type) (d := xs[i].1) ?_ ?_ n hn
          · rw [List.getElem?_map, Array.getElem?_toList, hif']; rfl
          · rw [List.getElem?_map, List.getElem?_eq_getElem hxi]; rfl)
        exact ⟨ys, by simpa using h1, h2⟩
      | _ => cases hc
end

/-! ### Arguments -/
section
variable {H : Type} {enc : TypeId × Value → H} {P : Program} {w : World} {F : FT}

def FitsV (P : Program) (t : TypeId) (x : AV) : Prop :=
  ∃ fuel xs, FitsC P fuel t xs ∧ ((tagg P t = some true ∧ x = .agg xs) ∨ (tagg P t = some false ∧ xs = [x]))

theorem arg_sound (hF : ∀ b o v, w.cell? ⟨b, o, none⟩ = some v → o < F b) {T : List TypeId} (hT : closedB P T = true) {t : TypeId} (ht : t ∈ T) {base : Nat} {v : Value} (hv : Value.okWide P w .any base t v)
    {b0 : Nat} {spare : Nat → Bool} {held : Bool} {d : DataW H} {ps : List MemPlace} (h : DataW.Trod enc P w b0 spare held t v d ps) (hz : ∀ n ∈ d.weights P t, n ≤ reachBytes) : ∃ x, CR w F x v ∧ FitsV P t x := by
  obtain ⟨fuel, h⟩ := h
  obtain ⟨xs, h1, h2⟩ := read_sound hF hT ht h hz
  have hc := List.all_eq_true.1 hT t ht
  unfold Value.okWide at hv
  cases hu : P.underlying t with
  | none => rw [hu] at hc; cases hc
  | some dd =>
    rw [hu] at hc hv
    have one : ∀ (hag : tagg P t = some false) (hone : v.cells = #[v]), ∃ x, CR w F x v ∧ FitsV P t x := by
      intro hag hone
      rw [hone] at h1
      have hl : xs.length = 1 := by rw [← h1.1]; rfl
      obtain ⟨x, rfl⟩ := List.length_eq_one_iff.1 hl
      exact ⟨x, (h1.2 0 (by simp) (by simp)).2, fuel, [x], h2, .inr ⟨hag, rfl⟩⟩
    cases dd with
    | bool => exact one (by simp [tagg, hu]) (by unfold Cell.okWide at hv; rw [hu] at hv; simp only [Cell.ok, hu] at hv; cases v <;> first | rfl | exact hv.elim)
    | int i => exact one (by simp [tagg, hu]) (by unfold Cell.okWide at hv; rw [hu] at hv; simp only [Cell.ok, hu] at hv; cases v <;> first | rfl | exact hv.elim)
    | string => exact one (by simp [tagg, hu]) (by unfold Cell.okWide at hv; rw [hu] at hv; simp only [Cell.ok, hu] at hv; cases v <;> first | rfl | exact hv.elim)
    | slice e => exact one (by simp [tagg, hu]) (by unfold Cell.okWide at hv; rw [hu] at hv; simp only [Cell.ok, hu] at hv; cases v <;> first | rfl | exact hv.elim)
    | struct fs =>
      obtain ⟨cs, rfl, hcs, _⟩ := hv
      refine ⟨.agg xs, .agg xs cs (by have := h1.1; simpa [Value.cells] using this) (fun i hi => ?_) (fun i hi hi' => ?_), fuel, xs, h2, .inl ⟨by simp [tagg, hu], rfl⟩⟩
      · have := (h1.2 i (by rw [← h1.1]; simpa [Value.cells] using hi) (by simpa [Value.cells] using hi)).1
        simpa [Value.cells] using this
      · have := (h1.2 i hi (by simpa [Value.cells] using hi')).2
        simpa [Value.cells] using this
    | _ => cases hc
end

end Go.Proofs.YtcodfehgnjplcaaGreatDoor.Abs

/- From the interpreter's word to a law. -/
namespace Go.Proofs.YtcodfehgnjplcaaGreatDoor.Abs
set_option linter.all false
set_option linter.unusedVariables false
open Go.RowKit

variable {H : Type} {enc : TypeId × Value → H} {P : Program} {W : World}

def FitsAll (P : Program) : List TypeId → List AV → Prop
  | [], xs => xs = []
  | t :: ts, xs => ∃ x r, xs = x :: r ∧ FitsV P t x ∧ FitsAll P ts r

theorem args_read {T : List TypeId} (hT : closedB P T = true) {base : Nat} : ∀ {ts : List TypeId} {vs : List Value} {ds : List (DataW H)} {ps : List MemPlace}, (∀ t ∈ ts, t ∈ T) →
    DataW.TrodAll enc P W 0 (fun _ => true) true ts vs ds ps → (∀ (j : Nat) t v, ts[j]? = some t → vs[j]? = some v → Value.okWide P W .any base t v) → (∀ n ∈ DataW.weightsEach P ts ds, n ≤ reachBytes) →
    ∃ xs, xs.length = vs.length ∧ FitsAll P ts xs ∧ ∀ i (h : i < xs.length) (h' : i < vs.length), CR W ⟨allF W, fun _ => none⟩ xs[i] vs[i] := by
  intro ts
  induction ts with
  | nil =>
    intro vs ds ps _ h _ _
    cases vs with
    | nil => exact ⟨[], rfl, rfl, fun i h => absurd h (by simp)⟩
    | cons v vs => simp [DataW.TrodAll] at h
  | cons t ts ih =>
    intro vs ds ps hts h hok hz
    obtain ⟨v, vs', d, ds', p, q, rfl, rfl, rfl, h1, h2⟩ := ChangeShapes.trodAll_cons h
    simp only [DataW.weightsEach, List.mem_append] at hz
    obtain ⟨x, hx1, hx2⟩ := arg_sound (F := ⟨allF W, fun _ => none⟩) (fun b o v h => allF_lt h) hT (hts t List.mem_cons_self) (hok 0 t v rfl rfl) h1 (fun n hn => hz n (.inl hn))
    obtain ⟨xs, h3, h4, h5⟩ := ih (fun t ht => hts t (List.mem_cons_of_mem _ ht)) h2 (fun j t' v' hj hv => hok (j + 1) t' v' (by simpa using hj) (by simpa using hv)) (fun n hn => hz n (.inr hn))
    refine ⟨x :: xs, by simp [h3], ⟨x, xs, rfl, hx2, h4⟩, fun i hi hi' => ?_⟩
    cases i with
    | zero => exact hx1
    | succ i => exact h5 i (by simpa using hi) (by simpa using hi')

theorem trodAll_below (hl : laidOutB P = true) {W' : World} (hb : Below W.heap.size W W') : ∀ {ts : List TypeId} {vs : List Value} {ds : List (DataW H)} {ps : List MemPlace}, (ts.all fun t => P.readableRec t && decide (t < P.types.size)) = true →
    DataW.TrodAll enc P W 0 (fun _ => true) true ts vs ds ps → (∀ x ∈ ps, x.block < W.heap.size) → DataW.TrodAll enc P W' 0 (fun b => decide (b < W.heap.size)) true ts vs ds ps := by
  intro ts
  induction ts with
  | nil =>
    intro vs ds ps _ h _
    cases vs <;> cases ds <;> first | exact h | simp [DataW.TrodAll] at h
  | cons t ts ih =>
    intro vs ds ps hts h hlt
    obtain ⟨v, vs', d, ds', p, q, rfl, rfl, rfl, h1, h2⟩ := ChangeShapes.trodAll_cons h
    rw [List.all_cons, Bool.and_eq_true] at hts
    obtain ⟨ht, hts⟩ := hts
    simp only [Bool.and_eq_true, decide_eq_true_eq] at ht
    exact ⟨p, q, RowKit.Below.trod hl ht.1 ht.2 h1 hb (fun x hx => hlt x (List.mem_append_left _ hx)), ih hts h2 (fun x hx => hlt x (List.mem_append_right _ hx)), rfl⟩

theorem law_calls {sg : FuncId → Nat → Nat} {fns : FuncId → Option AFunc} (hfn : FnsOk P sg fns) (hm : P.follows .mixedOrders = true) {T : List TypeId} (hT : closedB P T = true) {f : FuncId} {fn : Func} (hf : P.funcs[f]? = some fn)
    {base : Nat} {args : Array Value} {ds : List (DataW H)} {ps : List MemPlace} (hts : ∀ t ∈ fn.params.toList, t ∈ T) (hA : DataW.TrodAll enc P W 0 (fun _ => true) true fn.params.toList args.toList ds ps)
    (hok : ∀ (j : Nat) t v, fn.params[j]? = some t → args[j]? = some v → Value.okWide P W .any base t v) (hz : (DataW.weightsEach P (fn.params.toList ++ []) (ds ++ [])).all (· ≤ reachBytes) = true) {Γ : Nat → Option (List AV)} (hΓ : ∀ g xs, Γ g = some xs → CR W ⟨allF W, fun _ => none⟩ (.eptr xs) (.pointer (some ⟨g, 0, none⟩)))
    (hlaw : ∀ xs, FitsAll P fn.params.toList xs → CW fns f xs ⟨0, [], Γ⟩ fun q => q.1 = .bool true) :
    Calls P f args W fun e W' => e = .returned (.bool true) ∧ Below W.heap.size W W' := by
  obtain ⟨xs, h1, h2, h3⟩ := args_read hT hts hA (fun j t v hj hv => hok j t v (by simpa using hj) (by simpa using hv)) (by simpa using hz)
  obtain ⟨m, hcall⟩ := hlaw xs h2
  cases m with
  | zero => exact hcall.elim
  | succ m =>
    obtain ⟨ihc, ihl⟩ := calls_sound hfn hm m
    have ihl' : LoopOk P sg (loopN fns m) := fun hc _ _ hl _ _ _ h => wp_loop_rounds m (ihl hc hl h)
    simp only [callN, Abs.T.All_on] at hcall
    obtain ⟨af, haf, hcall⟩ := hcall
    split at hcall
    · rename_i hle
      obtain ⟨fn', hf', _, ⟨hs, hpf⟩, hxo⟩ := hfn f af haf
      have hsz : args.size = xs.length := by rw [h1]; simp
      refine (entered_sound ihc ihl' hm hf' hpf hxo hle hcall (w := W) (G := ⟨⟨allF W, fun _ => none⟩, fun _ => none, fun _ => .free⟩) hsz (fun i hi hi' => ?_) ⟨fun i ob hi => absurd hi (by simp [Abs.H.get, Option.join]), fun _ _ => rfl, hΓ⟩ (fun b hb => by cases hb) (allF_new W)).mono ?_
      · have := h3 i hi (by simpa using hi')
        simp only [Array.getElem_toList] at this
        exact ⟨TC_of_CR this, CR_plain this⟩
      · intro e W' ⟨r, hr, v, F', ω', he, hk, _, _, _, hT, _, _⟩
        rw [hr] at hT
        have hv := TR_bool hT
        subst hv
        exact ⟨he, hk.os, hk.tape, hk.output, hk.size, fun k hk' => hk.block k hk' (fun hi => by cases hi)⟩
    · exact hcall.elim

end Go.Proofs.YtcodfehgnjplcaaGreatDoor.Abs
