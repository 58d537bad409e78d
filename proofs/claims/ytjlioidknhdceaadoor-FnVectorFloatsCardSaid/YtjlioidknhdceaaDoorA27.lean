/- Evaluation step by step, forward, in a form that the simplifier goes through quickly: no step has what follows under a binder. -/
import Derived.Test.YtjlioidknhdceaaDoorA26
namespace Go.Proofs.YtjlioidknhdceaaDoor.Abs
set_option linter.all false
set_option linter.unusedVariables false

def Run {α : Type} (x : Option α) (Q : α → Prop) : Prop := ∃ r, x = some r ∧ Q r

section
variable {α β : Type}
theorem Run_some' (a : α) (Q : α → Prop) : Run (some a) Q ↔ Q a := ⟨fun ⟨_, h, hq⟩ => by injection h with h; subst h; exact hq, fun h => ⟨_, rfl, h⟩⟩
theorem Run_obind (x : Option α) (f : α → Option β) (Q : β → Prop) : Run (obind x f) Q ↔ Run x fun a => Run (f a) Q := by
  constructor
  · intro ⟨r, h, hq⟩
    obtain ⟨a, h1, h2⟩ := obind_eq_some.1 h
    exact ⟨a, h1, r, h2, hq⟩
  · intro ⟨a, h1, r, h2, hq⟩
    exact ⟨r, obind_eq_some.2 ⟨a, h1, h2⟩, hq⟩
theorem Run.mono {x : Option α} {Q Q' : α → Prop} (h : Run x Q) (k : ∀ a, Q a → Q' a) : Run x Q' := by obtain ⟨r, h1, h2⟩ := h; exact ⟨r, h1, k r h2⟩
theorem Run_iff {x : Option α} {Q Q' : α → Prop} (k : ∀ a, Q a ↔ Q' a) : Run x Q ↔ Run x Q' := ⟨fun h => h.mono fun a => (k a).1, fun h => h.mono fun a => (k a).2⟩
end

inductive Fr where
  | sq (k : ACode)
  | bl (id : Nat)
  | ag (c : ACode)

def argsO : List (AX × Bool) → St → Option (List AV × St)
  | [], st => some ([], st)
  | (x, true) :: r, st => obind (pln (take st x).1) fun _ => obind (argsO r (take st x).2) fun q => some ((take st x).1 :: q.1, q.2)
  | (x, false) :: r, st => obind (pln (give st x).1) fun _ => obind (argsO r (give st x).2) fun q => some ((give st x).1 :: q.1, q.2)
def fillO : List (Nat × Nat × AX) → List AV → St → Option (List AV × St)
  | [], cs, st => some (cs, st)
  | (off, n, x) :: r, cs, st => obind (fillV cs off n (give st x).1) fun cs => fillO r cs (give st x).2
theorem argsK_eq {β : Type} : ∀ {as : List (AX × Bool)} {st : St} {k : List AV → St → T β}, argsK as st k = T.on (argsO as st) fun q => k q.1 q.2
  | [], st, k => rfl
  | (x, true) :: r, st, k => by
    simp only [argsK, argsO]
    cases pln (take st x).1 with
    | none => rfl
    | some u => simp only [T.on, obind_some]; rw [argsK_eq]; cases argsO r (take st x).2 <;> rfl
  | (x, false) :: r, st, k => by
    simp only [argsK, argsO]
    cases pln (give st x).1 with
    | none => rfl
    | some u => simp only [T.on, obind_some]; rw [argsK_eq]; cases argsO r (give st x).2 <;> rfl
theorem fillK_eq {β : Type} : ∀ {ps : List (Nat × Nat × AX)} {cs : List AV} {st : St} {k : List AV → St → T β}, fillK ps cs st k = T.on (fillO ps cs st) fun q => k q.1 q.2
  | [], cs, st, k => rfl
  | (off, n, x) :: r, cs, st, k => by
    simp only [fillK, fillO]
    cases fillV cs off n (give st x).1 with
    | none => rfl
    | some u => simp only [T.on, obind_some]; rw [fillK_eq]; rfl

def onC {α : Type} (x : Option α) (y : (α → Prop) → Prop) (K : α → Prop) : Prop :=
  match x with
  | some q => K q
  | none => y K

section
variable (fns : FuncId → Option AFunc) (Q : Ex × St → Prop)

def GoE : List Fr → Ex → St → Prop
  | [], e, st => Q (e, st)
  | .sq k :: s, .normal, st => Ev (fun m => xexec (callN fns m) (loopN fns m) k st) fun r => GoE s r.1 r.2
  | .sq _ :: s, .exit i, st => GoE s (.exit i) st
  | .sq _ :: s, .ret, st => GoE s .ret st
  | .bl _ :: s, .normal, st => GoE s .normal st
  | .bl id :: s, .exit i, st => GoE s (if i = id then .normal else .exit i) st
  | .bl _ :: s, .ret, st => GoE s .ret st
  | .ag c :: s, .normal, st => LoopR fns c st fun r => GoE s r.1 r.2
  | .ag _ :: s, .exit i, st => GoE s (.exit i) st
  | .ag _ :: s, .ret, st => GoE s .ret st

variable (s : List Fr)
def GoC (c : ACode) (st : St) : Prop := Ev (fun m => xexec (callN fns m) (loopN fns m) c st) fun r => GoE fns Q s r.1 r.2
def GoO (l : List AOper) (c : ACode) (st : St) : Prop := Ev (fun m => opsK (callN fns m) l st fun st => xexec (callN fns m) (loopN fns m) c st) fun r => GoE fns Q s r.1 r.2
def GV (x : Option AV) (d : Option Nat) (l : List AOper) (c : ACode) (st : St) : Prop := Run x fun v => GoO fns Q s l c (st.put d v)
def GL (x : Option (AV × St)) (d : Option Nat) (l : List AOper) (c : ACode) : Prop := Run x fun q => GoO fns Q s l c (q.2.put d q.1)
def GT (x : T (AV × St)) (d : Option Nat) (l : List AOper) (c : ACode) : Prop := x.All fun q => GoO fns Q s l c (q.2.put d q.1)
def GS (x : Option St) (d : Option Nat) (l : List AOper) (c : ACode) : Prop := Run x fun st => GoO fns Q s l c (st.put d .skipped)
def GR (x : Option AV) (t : Nat) (d : Option Nat) (l : List AOper) (c : ACode) (st : St) : Prop := Run x fun v => Run (match v with | .str b => some b | _ => none) fun b => GoO fns Q s l c ((st.box t (.iter b 0)).put d (.ptr (.loc t) 0))
def GK (x : Option AV) (f : FuncId) (acc : List AV) (d : Option Nat) (l : List AOper) (c : ACode) (st : St) : Prop :=
  onC x (fun K => CW fns f acc st.h.mask fun q => Run (noHeap st.h.n q) K) fun v => GoO fns Q s l c (st.put d v)
def GH (x : Option (AV × H)) (f : FuncId) (acc : List AV) (d : Option Nat) (l : List AOper) (c : ACode) (st : St) : Prop :=
  onC x (CW fns f acc st.h) fun q => GoO fns Q s l c (St.put ⟨st.s, st.b, q.2⟩ d q.1)
def GX (x : Option (AV × AV)) (t : Nat) (d : Option Nat) (l : List AOper) (c : ACode) (st : St) : Prop := Run x fun q => GoO fns Q s l c ((st.set t q.2).put d q.1)
def GG (v : AV) (w : Bool) (o : AOp) (d : Option Nat) (l : List AOper) (c : ACode) (st : St) : Prop :=
  Ev (fun m => (onGuard v w (fun _ => opK (callN fns m) o st fun v st => .ret (st.put d v)) (fun _ => .ret (st.put d .skipped))).bind fun st => opsK (callN fns m) l st fun st => xexec (callN fns m) (loopN fns m) c st) fun r => GoE fns Q s r.1 r.2
def GB (v : AV) (a b : ACode) (st : St) : Prop := Ev (fun m => onBool v (fun _ => xexec (callN fns m) (loopN fns m) a st) (fun _ => xexec (callN fns m) (loopN fns m) b st)) fun r => GoE fns Q s r.1 r.2
def GA (hc : Bool) (f : FuncId) (acc : List AV) (as : List (AX × Bool)) (d : Option Nat) (l : List AOper) (c : ACode) (st : St) : Prop :=
  Run (argsO as st) fun q => match hc with
    | false => GK fns Q s (callv fns f (acc ++ q.1) q.2.h.mask) f (acc ++ q.1) d l c q.2
    | true => GH fns Q s (callω fns f (acc ++ q.1) q.2.h) f (acc ++ q.1) d l c q.2
def GD (hc : Bool) (tbl : Option (List (TypeId × FuncId))) (xv : AV) (as : List (AX × Bool)) (d : Option Nat) (l : List AOper) (c : ACode) (st : St) : Prop :=
  Run (argsO as st) fun q => Run (dTarget tbl xv q.1) fun r => match hc with
    | false => GK fns Q s (callv fns r.1 r.2 q.2.h.mask) r.1 r.2 d l c q.2
    | true => GH fns Q s (callω fns r.1 r.2 q.2.h) r.1 r.2 d l c q.2
def mkB : Option (Nat × Nat) → List AV → AV
  | none, cs => .agg cs
  | some (e, sz), cs => .slice (.own true) e sz cs
def GF (m : Option (Nat × Nat)) (ps : List (Nat × Nat × AX)) (x : Option (List AV)) (d : Option Nat) (l : List AOper) (c : ACode) (st : St) : Prop :=
  Run x fun cs => Run (fillO ps cs st) fun q => GoO fns Q s l c (q.2.put d (mkB m q.1))
end

section
variable {fns : FuncId → Option AFunc} {Q : Ex × St → Prop} {s : List Fr} {l : List AOper} {c : ACode} {st : St} {d : Option Nat}

@[simp] theorem goE_nil {e : Ex} : GoE fns Q [] e st = Q (e, st) := id rfl
@[simp] theorem goE_sq_n {k : ACode} : GoE fns Q (.sq k :: s) .normal st = GoC fns Q s k st := id rfl
@[simp] theorem goE_sq_e {k : ACode} {i : Nat} : GoE fns Q (.sq k :: s) (.exit i) st = GoE fns Q s (.exit i) st := id rfl
@[simp] theorem goE_sq_r {k : ACode} : GoE fns Q (.sq k :: s) .ret st = GoE fns Q s .ret st := id rfl
@[simp] theorem goE_bl_n {i : Nat} : GoE fns Q (.bl i :: s) .normal st = GoE fns Q s .normal st := id rfl
@[simp] theorem goE_bl_e {i j : Nat} : GoE fns Q (.bl i :: s) (.exit j) st = GoE fns Q s (if j = i then .normal else .exit j) st := id rfl
@[simp] theorem goE_bl_r {i : Nat} : GoE fns Q (.bl i :: s) .ret st = GoE fns Q s .ret st := id rfl
@[simp] theorem goE_ag_n {k : ACode} : GoE fns Q (.ag k :: s) .normal st = LoopR fns k st fun r => GoE fns Q s r.1 r.2 := id rfl
@[simp] theorem goE_ag_e {k : ACode} {i : Nat} : GoE fns Q (.ag k :: s) (.exit i) st = GoE fns Q s (.exit i) st := id rfl
@[simp] theorem goE_ag_r {k : ACode} : GoE fns Q (.ag k :: s) .ret st = GoE fns Q s .ret st := id rfl

@[simp] theorem goC_skip : GoC fns Q s .skip st ↔ GoE fns Q s .normal st := Ev_ret _ _
@[simp] theorem goC_exit {i : Nat} : GoC fns Q s (.exit i) st ↔ GoE fns Q s (.exit i) st := Ev_ret _ _
@[simp] theorem goC_ret : GoC fns Q s .ret st ↔ GoE fns Q s .ret st := Ev_ret _ _
theorem goC_ops {k : ACode} : GoC fns Q s (.ops l k) st ↔ GoO fns Q s l k st := Iff.rfl
theorem Ev_iff {α : Type} {x : Nat → T α} {R R' : α → Prop} (k : ∀ a, R a ↔ R' a) : Ev x R ↔ Ev x R' := ⟨fun h => h.mono fun a => (k a).1, fun h => h.mono fun a => (k a).2⟩
theorem up_goOn (k : ACode) (r : Ex × St) : Up fun m => goOn r fun st => xexec (callN fns m) (loopN fns m) k st := by
  obtain ⟨e, st⟩ := r
  cases e <;> first | exact up_exec fns k st | exact fun _ _ _ _ h => h
theorem goC_seq {a k : ACode} : GoC fns Q s (.seq a k) st ↔ GoC fns Q (.sq k :: s) a st := by
  refine (Ev_bind (up_exec fns a st) (up_goOn k)).trans (Ev_iff fun ⟨e, st'⟩ => ?_)
  cases e <;> first | exact Iff.rfl | exact Ev_ret _ _
theorem goC_cond {x : AX} {a b : ACode} : GoC fns Q s (.cond x a b) st ↔ GB fns Q s (peek st x) a b st := Iff.rfl
theorem goC_block {i : Nat} {a : ACode} : GoC fns Q s (.block i a) st ↔ GoC fns Q (.bl i :: s) a st := by
  refine (Ev_bind (f := fun _ => blockEnd i) (up_exec fns a st) (fun _ _ _ _ _ h => h)).trans (Ev_iff fun ⟨e, st'⟩ => ?_)
  cases e <;> exact Ev_ret _ _
theorem goC_loop {a : ACode} : GoC fns Q s (.loop a) st ↔ LoopR fns a st fun r => GoE fns Q s r.1 r.2 := Iff.rfl
@[simp] theorem gB_t {a b : ACode} : GB fns Q s (.bool true) a b st ↔ GoC fns Q s a st := Iff.rfl
@[simp] theorem gB_f {a b : ACode} : GB fns Q s (.bool false) a b st ↔ GoC fns Q s b st := Iff.rfl

@[simp] theorem goO_nil : GoO fns Q s [] c st ↔ GoC fns Q s c st := Iff.rfl
@[simp] theorem gV_some {v : AV} : GV fns Q s (some v) d l c st ↔ GoO fns Q s l c (st.put d v) := Run_some' _ _
@[simp] theorem gL_some {q : AV × St} : GL fns Q s (some q) d l c ↔ GoO fns Q s l c (q.2.put d q.1) := Run_some' _ _
@[simp] theorem gT_ret {q : AV × St} : GT fns Q s (.ret q) d l c ↔ GoO fns Q s l c (q.2.put d q.1) := Iff.rfl
@[simp] theorem gS_some {st : St} : GS fns Q s (some st) d l c ↔ GoO fns Q s l c (st.put d .skipped) := Run_some' _ _
@[simp] theorem gK_some {v : AV} {f : FuncId} {acc : List AV} : GK fns Q s (some v) f acc d l c st ↔ GoO fns Q s l c (st.put d v) := Iff.rfl
@[simp] theorem gH_some {q : AV × H} {f : FuncId} {acc : List AV} : GH fns Q s (some q) f acc d l c st ↔ GoO fns Q s l c (St.put ⟨st.s, st.b, q.2⟩ d q.1) := Iff.rfl
theorem gH_eq {f : FuncId} {acc : List AV} : GH fns Q s (callω fns f acc st.h) f acc d l c st ↔ CW fns f acc st.h fun q => GoO fns Q s l c (St.put ⟨st.s, st.b, q.2⟩ d q.1) := by
  unfold GH onC
  cases he : callω fns f acc st.h with
  | none => exact Iff.rfl
  | some q => exact (CW_det fns he (fun q => GoO fns Q s l c (St.put ⟨st.s, st.b, q.2⟩ d q.1))).symm
theorem gK_eq {f : FuncId} {acc : List AV} : GK fns Q s (callv fns f acc st.h.mask) f acc d l c st ↔ CW fns f acc st.h.mask fun q => GV fns Q s (noHeap st.h.n q) d l c st := by
  unfold GK onC
  cases he : callv fns f acc st.h.mask with
  | none => exact Iff.rfl
  | some v =>
    have h1 : CW fns f acc st.h.mask (fun q => noHeap st.h.n q = some v) := by
      have := (callv_spec fns).1 he
      simpa [H.mask, H.n] using this
    constructor
    · intro h2; exact Ev.mono h1 fun q hq => by rw [hq]; exact ⟨v, rfl, h2⟩
    · intro h2
      obtain ⟨q, h3, v', h4, h5⟩ := (h1.and fns h2).ex
      rw [h3] at h4; injection h4 with h4; subst h4; exact h5
theorem gH_of {f : FuncId} {acc : List AV} {p : AV × H → Prop} (h : CW fns f acc st.h p) (k : ∀ v h', p (v, h') → GoO fns Q s l c (St.put ⟨st.s, st.b, h'⟩ d v)) : GH fns Q s (callω fns f acc st.h) f acc d l c st := gH_eq.2 (Ev.mono h fun q hq => k _ _ hq)
@[simp] theorem gX_some {q : AV × AV} {t : Nat} : GX fns Q s (some q) t d l c st ↔ GoO fns Q s l c ((st.set t q.2).put d q.1) := Run_some' _ _

@[simp] theorem goO_guard {o : AOp} {j : Nat} {w : Bool} : GoO fns Q s (⟨o, d, some (j, w)⟩ :: l) c st ↔ GG fns Q s (st.s j) w o d l c st := Iff.rfl
theorem opK_step {o : AOp} : (Ev (fun m => (opK (callN fns m) o st fun v st => .ret (st.put d v)).bind fun st => opsK (callN fns m) l st fun st => xexec (callN fns m) (loopN fns m) c st) fun r => GoE fns Q s r.1 r.2) ↔ GoO fns Q s (⟨o, d, none⟩ :: l) c st := by
  have : ∀ m, ((opK (callN fns m) o st fun v st => .ret (st.put d v)).bind fun st => opsK (callN fns m) l st fun st => xexec (callN fns m) (loopN fns m) c st) = opsK (callN fns m) (⟨o, d, none⟩ :: l) st fun st => xexec (callN fns m) (loopN fns m) c st := fun m => by
    rw [← opK_bind (K := fun st => opsK (callN fns m) l st fun st => xexec (callN fns m) (loopN fns m) c st)]; rfl
  unfold Ev GoO Ev
  simp only [this]
@[simp] theorem gG_tt {o : AOp} : GG fns Q s (.bool true) true o d l c st ↔ GoO fns Q s (⟨o, d, none⟩ :: l) c st := opK_step
@[simp] theorem gG_tf {o : AOp} : GG fns Q s (.bool true) false o d l c st ↔ GoO fns Q s l c (st.put d .skipped) := Iff.rfl
@[simp] theorem gG_ft {o : AOp} : GG fns Q s (.bool false) true o d l c st ↔ GoO fns Q s l c (st.put d .skipped) := Iff.rfl
@[simp] theorem gG_sk {o : AOp} {w : Bool} : GG fns Q s .skipped w o d l c st ↔ GoO fns Q s l c (st.put d .skipped) := Iff.rfl

/-! ### The operations -/
@[simp] theorem go_move {m : Mode} {x : AX} : GoO fns Q s (⟨.move m x, d, none⟩ :: l) c st ↔ GoO fns Q s l c ((copy m st x).2.put d (copy m st x).1) := Iff.rfl
@[simp] theorem go_assign {x : AX} : GoO fns Q s (⟨.assign x, d, none⟩ :: l) c st ↔ GoO fns Q s l c ((take st x).2.put d (take st x).1) := Iff.rfl
@[simp] theorem go_pick {x a b : AX} : GoO fns Q s (⟨.pick x a b, d, none⟩ :: l) c st ↔ GV fns Q s (pkV (peek st x) (give st a).1 (give (give st a).2 b).1) d l c (give (give st a).2 b).2 := Ev_on
@[simp] theorem go_newbox {t : Nat} {cs : List AV} : GoO fns Q s (⟨.newbox t cs, d, none⟩ :: l) c st ↔ GoO fns Q s l c ((st.box t (.cells cs)).put d (.ptr (.loc t) 0)) := Iff.rfl
@[simp] theorem go_newobj {cs : List AV} : GoO fns Q s (⟨.newobj cs, d, none⟩ :: l) c st ↔ GoO fns Q s l c ((st.pushH (.cells cs)).put d (.ptr (.obj st.h.n) 0)) := Iff.rfl
theorem pln_on {v : AV} {P : Prop} : (∃ a, pln v = some a ∧ P) ↔ v.plain = true ∧ P := by
  unfold pln
  by_cases h : v.plain = true
  · rw [if_pos h]; exact ⟨fun ⟨_, _, k⟩ => ⟨h, k⟩, fun k => ⟨(), rfl, k.2⟩⟩
  · rw [if_neg h]; exact ⟨fun ⟨_, k, _⟩ => (by cases k), fun k => absurd k.1 h⟩
@[simp] theorem go_box {t : Nat} {x : AX} : GoO fns Q s (⟨.box t x, d, none⟩ :: l) c st ↔ (take st x).1.plain = true ∧ GoO fns Q s l c (((take st x).2.box t (.cells (take st x).1.cells)).put d (.ptr (.loc t) 0)) := Ev_on.trans pln_on
@[simp] theorem go_mkSl {o : Bool} {e sz by' : Nat} {z : List AV} {x y : AX} : GoO fns Q s (⟨.mkSl o e sz by' z x y, d, none⟩ :: l) c st ↔ GL fns Q s (mkV o e sz by' z (peek st x) (peek st y) st) d l c := Ev_on
@[simp] theorem go_copyB {sz : Nat} {str : Bool} {x y : AX} : GoO fns Q s (⟨.copyB sz str x y, d, none⟩ :: l) c st ↔ GL fns Q s (cpRow sz str (give st x).1 (peek (give st x).2 y) (give st x).2) d l c := Ev_on
@[simp] theorem go_load {m : Mode} {a : Bool} {n : Nat} {x : AX} : GoO fns Q s (⟨.load m a n x, d, none⟩ :: l) c st ↔ GL fns Q s (ldV m a n (peek st x) st) d l c := Ev_on
@[simp] theorem go_store {n : Nat} {x y : AX} : GoO fns Q s (⟨.store n x y, d, none⟩ :: l) c st ↔ GS fns Q s (stV n (peek st x) (take st y).1 (take st y).2) d l c := Ev_on
@[simp] theorem go_bin {op : BinOp} {kd : Nat} {lit : Bool} {x y : AX} : GoO fns Q s (⟨.bin op kd lit x y, d, none⟩ :: l) c st ↔ GV fns Q s (aBin op kd lit (peek st x) (peek st y)) d l c st := Ev_on
@[simp] theorem go_un {op : UnOp} {x : AX} : GoO fns Q s (⟨.un op x, d, none⟩ :: l) c st ↔ GV fns Q s (aUn op (peek st x)) d l c st := Ev_on
@[simp] theorem go_convInt {k : IntKind} {x : AX} : GoO fns Q s (⟨.convInt k x, d, none⟩ :: l) c st ↔ GV fns Q s (cvInt k (peek st x)) d l c st := Ev_on
@[simp] theorem go_convBS {x : AX} : GoO fns Q s (⟨.convBS x, d, none⟩ :: l) c st ↔ GV fns Q s (cvBS (give st x).2.h (give st x).1) d l c (give st x).2 := Ev_on
@[simp] theorem go_mkIface {t : TypeId} {x : AX} : GoO fns Q s (⟨.mkIface t x, d, none⟩ :: l) c st ↔ GV fns Q s (mkI t (give st x).1) d l c (give st x).2 := Ev_on
@[simp] theorem go_sliceSl {sz : Nat} {x : AX} {lo hi : Option AX} : GoO fns Q s (⟨.sliceSl sz x lo hi, d, none⟩ :: l) c st ↔ GV fns Q s (slSl (give st x).2.h sz (give st x).1 (bound st lo (some 0)) (bound st hi (lenV (give st x).1))) d l c (give st x).2 := Ev_on
@[simp] theorem go_fieldAddr {off : Nat} {x : AX} : GoO fns Q s (⟨.fieldAddr off x, d, none⟩ :: l) c st ↔ GV fns Q s (fdV off (peek st x)) d l c st := Ev_on
@[simp] theorem go_indexAddr {sz : Nat} {x i : AX} : GoO fns Q s (⟨.indexAddr sz x i, d, none⟩ :: l) c st ↔ GV fns Q s (ixV sz (give st x).1 (peek st i)) d l c (give st x).2 := Ev_on
@[simp] theorem go_extract {t i : Nat} : GoO fns Q s (⟨.extract t i, d, none⟩ :: l) c st ↔ GX fns Q s (exV (st.s t) i) t d l c st := Ev_on
@[simp] theorem go_len {b : Bool} {x : AX} : GoO fns Q s (⟨.len b x, d, none⟩ :: l) c st ↔ GV fns Q s (aLen b (peek st x)) d l c st := Ev_on
@[simp] theorem go_append {e sz bytes : Nat} {str : Bool} {x y : AX} : GoO fns Q s (⟨.append e sz bytes str x y, d, none⟩ :: l) c st ↔ GV fns Q s (apV (take st x).2.h e sz bytes str (take st x).1 (peek st y)) d l c (take st x).2 := Ev_on
@[simp] theorem go_px {o : XOp} {as : List AX} : GoO fns Q s (⟨.px o as, d, none⟩ :: l) c st ↔ GV fns Q s (xV o st.h (as.map (peek st))) d l c st := Ev_on
@[simp] theorem xV_ixArr {n sz : Nat} {h : H} {p i : AV} : xV (.ixArr n sz) h [p, i] = iaV n sz h p i := id rfl
@[simp] theorem xV_slArr {n e sz : Nat} {h : H} {p i j : AV} : xV (.slArr n e sz) h [p, i, j] = saV n e sz h p i j := id rfl
@[simp] theorem xV_ixAgg {ag : Bool} {n m sz : Nat} {h : H} {p i : AV} : xV (.ixAgg ag n m sz) h [p, i] = igV ag n m sz p i := id rfl
@[simp] theorem xV_tassert {t : TypeId} {z x : AV} {ok : Bool} {h : H} : xV (.tassert t z ok) h [x] = taV t z ok x := id rfl
@[simp] theorem xV_tassertI {z x : AV} {ok : Bool} {ys ns : List TypeId} {h : H} : xV (.tassertI z ok ys ns) h [x] = tiV z ok ys ns x := id rfl
@[simp] theorem xV_minmax {mx : Bool} {x y : AV} {h : H} : xV (.minmax mx) h [x, y] = mmV mx x y := id rfl
@[simp] theorem xV_rStr {x : AV} {h : H} : xV .rStr h [x] = rsV x := id rfl
@[simp] theorem xV_idxB {x y : AV} {h : H} : xV .idxB h [x, y] = ibV h x y := id rfl
@[simp] theorem xV_fb {k : Nat} {x : AV} {h : H} : xV (.fb k) h [x] = fbV k x := id rfl
@[simp] theorem xV_eqArr {neg : Bool} {n : Nat} {k : IntKind} {x y : AV} {h : H} : xV (.eqArr neg n k) h [x, y] = eqaV neg n k x y := id rfl
@[simp] theorem ev_fb0 {b : Nat} : fbV 0 (.flt .f64 b) = some (.int .u64 (b : Int)) := id rfl
@[simp] theorem ev_fb1 {b : Int} : fbV 1 (.int .u64 b) = some (.flt .f64 b.toNat) := id rfl
@[simp] theorem ev_fb2 {b : Nat} : fbV 2 (.flt .f32 b) = some (.int .u32 (b : Int)) := id rfl
@[simp] theorem ev_fb3 {b : Int} : fbV 3 (.int .u32 b) = some (.flt .f32 b.toNat) := id rfl
@[simp] theorem ev_ia_ptr {n sz off : Nat} {h : H} {k : K} {kd : IntKind} {i : Int} : iaV n sz h (.ptr k off) (.int kd i) = if 0 ≤ i ∧ i < (n : Int) then some (.ptr k (off + i.toNat * sz)) else none := id rfl
@[simp] theorem ev_ia_eptr {n sz : Nat} {h : H} {ys : List AV} {kd : IntKind} {i : Int} : iaV n sz h (.eptr ys) (.int kd i) = if 0 ≤ i ∧ i < (n : Int) then some (.eptr (ys.drop (i.toNat * sz))) else none := id rfl
@[simp] theorem ev_ta {t u : TypeId} {z v : AV} {ok : Bool} : taV t z ok (.iface u v) = if u = t then some (taOk ok v) else if ok then some (.tup [z, .bool false]) else none := id rfl
@[simp] theorem ev_ta_nil {t : TypeId} {z : AV} {ok : Bool} : taV t z ok .nilI = if ok then some (.tup [z, .bool false]) else none := id rfl
@[simp] theorem taOk_t {v : AV} : taOk true v = .tup [v, .bool true] := id rfl
@[simp] theorem taOk_f {v : AV} : taOk false v = v := id rfl
attribute [simp] saV igV tiV mmV eqaV intsOf

theorem up_call1 {f : FuncId} {vs : List AV} {st : St} : Ev (fun m => (callN fns m f vs st.h.mask).bind fun q => T.on (noHeap st.h.n q) fun v => opsK (callN fns m) l (st.put d v) fun st => xexec (callN fns m) (loopN fns m) c st) (fun r => GoE fns Q s r.1 r.2) ↔
    CW fns f vs st.h.mask fun q => GV fns Q s (noHeap st.h.n q) d l c st := by
  refine (Ev_bind (up_call fns f vs _) (fun q => ?_)).trans (Ev_iff fun q => Ev_on)
  cases noHeap st.h.n q with
  | none => exact fun _ _ _ _ h => h
  | some v => exact up_ops fns l c (st.put d v)
@[simp] theorem go_call {f : FuncId} {as : List (AX × Bool)} : GoO fns Q s (⟨.call f as, d, none⟩ :: l) c st ↔ GA fns Q s false f [] as d l c st := by
  have h1 : ∀ m, (opsK (callN fns m) (⟨.call f as, d, none⟩ :: l) st fun st => xexec (callN fns m) (loopN fns m) c st) = T.on (argsO as st) fun q => (callN fns m f q.1 q.2.h.mask).bind fun r => T.on (noHeap q.2.h.n r) fun v => opsK (callN fns m) l (q.2.put d v) fun st => xexec (callN fns m) (loopN fns m) c st := fun m => argsK_eq
  unfold GoO Ev
  simp only [h1]
  refine Ev_on.trans (show _ ↔ ∃ q, _ from ?_)
  refine exists_congr fun q => and_congr_right fun _ => ?_
  exact up_call1.trans gK_eq.symm
@[simp] theorem go_hcall {f : FuncId} {as : List (AX × Bool)} : GoO fns Q s (⟨.hcall f as, d, none⟩ :: l) c st ↔ GA fns Q s true f [] as d l c st := by
  have h1 : ∀ m, (opsK (callN fns m) (⟨.hcall f as, d, none⟩ :: l) st fun st => xexec (callN fns m) (loopN fns m) c st) = T.on (argsO as st) fun q => (callN fns m f q.1 q.2.h).bind fun r => opsK (callN fns m) l (St.put ⟨q.2.s, q.2.b, r.2⟩ d r.1) fun st => xexec (callN fns m) (loopN fns m) c st := fun m => argsK_eq
  unfold GoO Ev
  simp only [h1]
  refine Ev_on.trans (show _ ↔ ∃ q, _ from ?_)
  refine exists_congr fun q => and_congr_right fun _ => ?_
  exact (Ev_bind (up_call fns f q.1 _) (fun r => up_ops fns l c _)).trans gH_eq.symm
@[simp] theorem gA_nil {f : FuncId} {acc : List AV} : GA fns Q s false f acc [] d l c st ↔ GK fns Q s (callv fns f acc st.h.mask) f acc d l c st := by
  refine (Run_some' _ _).trans ?_
  rw [List.append_nil]
@[simp] theorem gA_nilh {f : FuncId} {acc : List AV} : GA fns Q s true f acc [] d l c st ↔ GH fns Q s (callω fns f acc st.h) f acc d l c st := by
  refine (Run_some' _ _).trans ?_
  rw [List.append_nil]
theorem gA_cons {hc : Bool} {f : FuncId} {acc : List AV} {as : List (AX × Bool)} {v : AV} {st' : St} :
    (Run (obind (pln v) fun _ => obind (argsO as st') fun q => some (v :: q.1, q.2)) fun q => match hc with
      | false => GK fns Q s (callv fns f (acc ++ q.1) q.2.h.mask) f (acc ++ q.1) d l c q.2
      | true => GH fns Q s (callω fns f (acc ++ q.1) q.2.h) f (acc ++ q.1) d l c q.2) ↔ v.plain = true ∧ GA fns Q s hc f (acc ++ [v]) as d l c st' := by
  refine (Run_obind _ _ _).trans (pln_on.trans (and_congr_right fun _ => ?_))
  refine (Run_obind _ _ _).trans (Run_iff fun q => (Run_some' _ _).trans ?_)
  rw [List.append_assoc]; rfl
@[simp] theorem gA_g {hc : Bool} {f : FuncId} {acc : List AV} {x : AX} {as : List (AX × Bool)} : GA fns Q s hc f acc ((x, false) :: as) d l c st ↔ (give st x).1.plain = true ∧ GA fns Q s hc f (acc ++ [(give st x).1]) as d l c (give st x).2 := gA_cons

@[simp] theorem go_build {z : List AV} {ps : List (Nat × Nat × AX)} : GoO fns Q s (⟨.build z ps, d, none⟩ :: l) c st ↔ GF fns Q s none ps (some z) d l c st := by
  have h1 : ∀ m, (opsK (callN fns m) (⟨.build z ps, d, none⟩ :: l) st fun st => xexec (callN fns m) (loopN fns m) c st) = T.on (fillO ps z st) fun q => opsK (callN fns m) l (q.2.put d (.agg q.1)) fun st => xexec (callN fns m) (loopN fns m) c st := fun m => fillK_eq
  unfold GoO Ev
  simp only [h1]
  refine Ev_on.trans ?_
  exact ⟨fun h => ⟨z, rfl, h⟩, fun ⟨_, e, h⟩ => by cases e; exact h⟩
@[simp] theorem go_buildSl {e sz : Nat} {z : List AV} {ps : List (Nat × Nat × AX)} : GoO fns Q s (⟨.buildSl e sz z ps, d, none⟩ :: l) c st ↔ GF fns Q s (some (e, sz)) ps (some z) d l c st := by
  have h1 : ∀ m, (opsK (callN fns m) (⟨.buildSl e sz z ps, d, none⟩ :: l) st fun st => xexec (callN fns m) (loopN fns m) c st) = T.on (fillO ps z st) fun q => opsK (callN fns m) l (q.2.put d (.slice (.own true) e sz q.1)) fun st => xexec (callN fns m) (loopN fns m) c st := fun m => fillK_eq
  unfold GoO Ev
  simp only [h1]
  refine Ev_on.trans ?_
  exact ⟨fun h => ⟨z, rfl, h⟩, fun ⟨_, e, h⟩ => by cases e; exact h⟩
@[simp] theorem gF_nil {m : Option (Nat × Nat)} {cs : List AV} : GF fns Q s m [] (some cs) d l c st ↔ GoO fns Q s l c (st.put d (mkB m cs)) := (Run_some' _ _).trans (Run_some' _ _)
@[simp] theorem gF_cons {m : Option (Nat × Nat)} {off n : Nat} {x : AX} {ps : List (Nat × Nat × AX)} {cs : List AV} : GF fns Q s m ((off, n, x) :: ps) (some cs) d l c st ↔ GF fns Q s m ps (fillV cs off n (give st x).1) d l c (give st x).2 :=
  (Run_some' _ _).trans (Run_obind _ _ _)
@[simp] theorem mkB_none {cs : List AV} : mkB none cs = .agg cs := id rfl
@[simp] theorem mkB_some {e sz : Nat} {cs : List AV} : mkB (some (e, sz)) cs = .slice (.own true) e sz cs := id rfl

/-! ### The state -/
@[simp] theorem ev_peek_t {n : Nat} : peek st (.t n) = hdV (st.s n) := id rfl
@[simp] theorem ev_peek_p {n : Nat} : peek st (.p n) = st.s n := id rfl
@[simp] theorem ev_peek_c {v : AV} : peek st (.c v) = v := id rfl
@[simp] theorem ev_give_t {n : Nat} : give st (.t n) = (gvV (st.s n), st.set n (gvV (st.s n))) := id rfl
@[simp] theorem ev_give_p {n : Nat} : give st (.p n) = (hdV (st.s n), st) := id rfl
@[simp] theorem ev_give_c {v : AV} : give st (.c v) = (v, st) := id rfl
@[simp] theorem ev_take_t {n : Nat} : take st (.t n) = (st.s n, st.set n (lfV (st.s n))) := id rfl
@[simp] theorem ev_take_p {n : Nat} : take st (.p n) = (hdV (st.s n), st) := id rfl
@[simp] theorem ev_take_c {v : AV} : take st (.c v) = (v, st) := id rfl
@[simp] theorem ev_copy_t {m : Mode} {n : Nat} : copy m st (.t n) = (cpV m (st.s n), st.set n (cpS m (st.s n))) := id rfl
@[simp] theorem ev_copy_p {m : Mode} {n : Nat} : copy m st (.p n) = (hdV (st.s n), st) := id rfl
@[simp] theorem ev_copy_c {m : Mode} {v : AV} : copy m st (.c v) = (v, st) := id rfl
@[simp] theorem ev_put_some {t : Nat} {v : AV} : st.put (some t) v = st.set t v := id rfl
@[simp] theorem ev_put_none {v : AV} : st.put none v = st := id rfl
@[simp] theorem ev_set {t : Nat} {v : AV} : st.set t v = ⟨upd st.s t v, st.b, st.h⟩ := id rfl
@[simp] theorem ev_pushH {o : Obj} : st.pushH o = ⟨st.s, st.b, st.h.push o⟩ := id rfl
@[simp] theorem ev_at_loc {t : Nat} : st.at (.loc t) = st.b t := id rfl
@[simp] theorem ev_at_obj {i : Nat} : st.at (.obj i) = st.h.get i := id rfl
@[simp] theorem ev_setAt_loc {t : Nat} {o : Obj} : st.setAt (.loc t) o = ⟨st.s, upd st.b t (some o), st.h⟩ := id rfl
@[simp] theorem ev_setAt_obj {i : Nat} {o : Obj} : st.setAt (.obj i) o = ⟨st.s, st.b, st.h.set i o⟩ := id rfl
@[simp] theorem ev_upd {α : Type} {s : Nat → α} {i j : Nat} {v : α} : upd s i v j = if j = i then v else s j := id rfl
@[simp] theorem ev_upd_upd {α : Type} {s : Nat → α} {i : Nat} {v w : α} : upd (upd s i v) i w = upd s i w := by funext j; simp only [upd]; split <;> rfl
@[simp] theorem ev_box_s {t j : Nat} {o : Obj} : (st.box t o).s j = (st.s j).kill t := id rfl
@[simp] theorem ev_box_b {t : Nat} {o : Obj} : (st.box t o).b = upd st.b t (some o) := id rfl
@[simp] theorem ev_box_h {t : Nat} {o : Obj} : (st.box t o).h = st.h := id rfl
end

def xends (rs : List ARes) (r : Ex × St) : Option (AV × H) :=
  match r.1 with
  | .exit _ => none
  | .normal => obind (xresults rs r.2) fun vs => some (oneOrTup vs.1, vs.2.h)
  | .ret => obind (xresults rs r.2) fun vs => some (oneOrTup vs.1, vs.2.h)
@[simp] theorem xends_normal (rs : List ARes) (st : St) : xends rs (.normal, st) = obind (xresults rs st) fun vs => some (oneOrTup vs.1, vs.2.h) := id rfl
@[simp] theorem xends_ret (rs : List ARes) (st : St) : xends rs (.ret, st) = obind (xresults rs st) fun vs => some (oneOrTup vs.1, vs.2.h) := id rfl

section
variable (fns : FuncId → Option AFunc)
theorem loopω_run {c : ACode} {st : St} {Q : Ex × St → Prop} (h : GoC fns Q [.ag c] c st) : LoopR fns c st Q := by
  refine LoopR_of fns (Ev.mono h fun ⟨e, st'⟩ h2 => ?_)
  cases e with
  | normal => exact h2
  | exit i => exact (Ev_ret _ _).2 h2
  | ret => exact (Ev_ret _ _).2 h2
theorem callω_runs {f : FuncId} {af : AFunc} (hf : fns f = some af) {c : ACode} {rs : List ARes} (hc : af.code = c) (hrs : af.res = rs) {vs : List AV} {h0 : H} (hx : af.x vs h0 = none) (hl : vs.length ≤ af.n) {p : AV × H → Prop}
    (h : GoC fns (fun e => Run (xends rs e) p) [] c ⟨fun j => (vs[j]?).getD .undef, fun _ => none, h0⟩) : CW fns f vs h0 p := by
  subst hc; subst hrs
  refine CW_of fns hf hl hx ?_
  obtain ⟨m, hm⟩ := h
  refine ⟨m, ?_⟩
  simp only [xbody, T.All_bind, T.All_ofO]
  exact hm
theorem callω_run {f : FuncId} {af : AFunc} (hf : fns f = some af) {c : ACode} {rs : List ARes} (hc : af.code = c) (hrs : af.res = rs) {vs : List AV} {h0 : H} (hx : af.x vs h0 = none) (hl : vs.length ≤ af.n) {r : AV × H}
    (h : GoC fns (fun e => xends rs e = some r) [] c ⟨fun j => (vs[j]?).getD .undef, fun _ => none, h0⟩) : callω fns f vs h0 = some r :=
  (callω_spec fns).2 (callω_runs fns hf hc hrs hx hl (Ev.mono h fun e he => ⟨r, he, rfl⟩))
end
@[simp low] theorem callv_eq (fns : FuncId → Option AFunc) (f : FuncId) (vs : List AV) (h : H) : callv fns f vs h = (callω fns f vs h).elim (callv0 fns f vs h) (noHeap h.n) := id rfl

/-! Whole numbers bit by bit, under names of their own. -/
def andI (k : IntKind) (x y : Int) : Int := k.wrap (BitVec.ofInt k.bits x &&& BitVec.ofInt k.bits y).toNat
def orI (k : IntKind) (x y : Int) : Int := k.wrap (BitVec.ofInt k.bits x ||| BitVec.ofInt k.bits y).toNat
def xorI (k : IntKind) (x y : Int) : Int := k.wrap (BitVec.ofInt k.bits x ^^^ BitVec.ofInt k.bits y).toNat
def andNotI (k : IntKind) (x y : Int) : Int := k.wrap (BitVec.ofInt k.bits x &&& ~~~(BitVec.ofInt k.bits y)).toNat
section
variable {k : IntKind} {x y : Int}
@[simp] theorem aInt_add : aInt .add k x y = some (.int k (k.wrap (x + y))) := id rfl
@[simp] theorem aInt_sub : aInt .sub k x y = some (.int k (k.wrap (x - y))) := id rfl
@[simp] theorem aInt_mul : aInt .mul k x y = some (.int k (k.wrap (x * y))) := id rfl
@[simp] theorem aInt_quo : aInt .quo k x y = if y = 0 then none else some (.int k (k.wrap (x.tdiv y))) := id rfl
@[simp] theorem aInt_rem : aInt .rem k x y = if y = 0 then none else some (.int k (x.tmod y)) := id rfl
@[simp] theorem aInt_and : aInt .and k x y = some (.int k (andI k x y)) := id rfl
@[simp] theorem aInt_or : aInt .or k x y = some (.int k (orI k x y)) := id rfl
@[simp] theorem aInt_xor : aInt .xor k x y = some (.int k (xorI k x y)) := id rfl
@[simp] theorem aInt_andNot : aInt .andNot k x y = some (.int k (andNotI k x y)) := id rfl
@[simp] theorem aInt_eql : aInt .eql k x y = some (.bool (decide (x = y))) := id rfl
@[simp] theorem aInt_neq : aInt .neq k x y = some (.bool (!decide (x = y))) := id rfl
@[simp] theorem aInt_lss : aInt .lss k x y = some (.bool (decide (x < y))) := id rfl
@[simp] theorem aInt_leq : aInt .leq k x y = some (.bool (decide (x ≤ y))) := id rfl
@[simp] theorem aInt_gtr : aInt .gtr k x y = some (.bool (decide (y < x))) := id rfl
@[simp] theorem aInt_geq : aInt .geq k x y = some (.bool (decide (y ≤ x))) := id rfl
end
attribute [simp] ldV stV cvInt aBin aEq aStr fillV splice xresults xres pln oneOrTup bne ixStr bound
@[simp] theorem glV_some_t (n : Nat) (ys : List AV) : glV true n (some ys) = if n ≤ ys.length then some (.agg (ys.take n)) else none := id rfl
@[simp] theorem glV_some_f (n : Nat) (y : AV) (ys : List AV) : glV false n (some (y :: ys)) = some y := id rfl
@[simp] theorem glV_zero (x : Option (List AV)) : glV true 0 x = some (.agg []) := by cases x <;> simp [glV]
@[simp] theorem int_beq (a b : Int) : (a == b) = decide (a = b) := rfl

theorem wrap_i64 {n : Int} (h0 : -9223372036854775808 ≤ n) (h1 : n ≤ 9223372036854775807) : IntKind.i64.wrap n = n := by
  simp [IntKind.wrap, IntKind.signed, IntKind.bits]; omega
/-! Code by its definition. -/
section
theorem xOps {k c : ACode} {l : List AOper} (h : k = .ops l c) : ∀ {fns : FuncId → Option AFunc} {Q : Ex × St → Prop} {s : List Fr} {st : St}, GoC fns Q s k st ↔ GoO fns Q s l c st := by subst h; intros; exact goC_ops
theorem xSeq {k a b : ACode} (h : k = .seq a b) : ∀ {fns : FuncId → Option AFunc} {Q : Ex × St → Prop} {s : List Fr} {st : St}, GoC fns Q s k st ↔ GoC fns Q (.sq b :: s) a st := by subst h; intros; exact goC_seq
theorem xCond {k a b : ACode} {x : AX} (h : k = .cond x a b) : ∀ {fns : FuncId → Option AFunc} {Q : Ex × St → Prop} {s : List Fr} {st : St}, GoC fns Q s k st ↔ GB fns Q s (peek st x) a b st := by subst h; intros; exact goC_cond
theorem xBlock {k a : ACode} {i : Nat} (h : k = .block i a) : ∀ {fns : FuncId → Option AFunc} {Q : Ex × St → Prop} {s : List Fr} {st : St}, GoC fns Q s k st ↔ GoC fns Q (.bl i :: s) a st := by subst h; intros; exact goC_block
theorem xLoop {k a : ACode} (h : k = .loop a) : ∀ {fns : FuncId → Option AFunc} {Q : Ex × St → Prop} {s : List Fr} {st : St}, GoC fns Q s k st ↔ (LoopR fns a st fun r => GoE fns Q s r.1 r.2) := by subst h; intros; exact goC_loop
theorem xSame {k a : ACode} (h : k = a) : ∀ {fns : FuncId → Option AFunc} {Q : Ex × St → Prop} {s : List Fr} {st : St}, GoC fns Q s k st ↔ GoC fns Q s a st := by subst h; intros; exact Iff.rfl
end
end Go.Proofs.YtjlioidknhdceaaDoor.Abs
