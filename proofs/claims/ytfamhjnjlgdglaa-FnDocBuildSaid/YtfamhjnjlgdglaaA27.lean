/- Evaluation step by step, forward, in a form that the simplifier goes through quickly: no step has what follows under a binder. -/
import Derived.Test.YtfamhjnjlgdglaaA26
namespace Go.Proofs.Ytfamhjnjlgdglaa.Abs
set_option linter.all false
set_option linter.unusedVariables false

/-- It has an outcome, and that is one of these. -/
def Run {α : Type} (x : Option α) (Q : α → Prop) : Prop := ∃ r, x = some r ∧ Q r

section
variable {α β : Type}
theorem Run_some' (a : α) (Q : α → Prop) : Run (some a) Q ↔ Q a := ⟨fun ⟨_, h, hq⟩ => by injection h with h; subst h; exact hq, fun h => ⟨_, rfl, h⟩⟩
theorem Run_obind (x : Option α) (f : α → Option β) (Q : β → Prop) : Run (obind x f) Q ↔ Run x fun a => Run (f a) Q := by
  constructor
  · intro ⟨r, h, hq⟩
    obtain ⟨a, h1, h2⟩ := obind_eq_some.1 h
    exact ⟨a, h1, r, h2, hq⟩
  · intro ⟨a, h1, r, h2, hq⟩
    exact ⟨r, obind_eq_some.2 ⟨a, h1, h2⟩, hq⟩
theorem Run.mono {x : Option α} {Q Q' : α → Prop} (h : Run x Q) (k : ∀ a, Q a → Q' a) : Run x Q' := by obtain ⟨r, h1, h2⟩ := h; exact ⟨r, h1, k r h2⟩
theorem Run_iff {x : Option α} {Q Q' : α → Prop} (k : ∀ a, Q a ↔ Q' a) : Run x Q ↔ Run x Q' := ⟨fun h => h.mono fun a => (k a).1, fun h => h.mono fun a => (k a).2⟩
end

/-- What is still to be done behind a piece of code: a piece, a block's end, a loop's next round. -/
inductive Fr where
  | sq (k : ACode)
  | bl (id : Nat)
  | ag (c : ACode)

section
variable (fns : FuncId → Option AFunc) (Q : Ex × St → Prop)

/-- A piece has come to its end: what is behind it goes on. -/
def GoE : List Fr → Ex → St → Prop
  | [], e, st => Q (e, st)
  | .sq k :: s, .normal, st => Run (xexec (callω fns) (loopω fns) k st) fun r => GoE s r.1 r.2
  | .sq _ :: s, .exit i, st => GoE s (.exit i) st
  | .sq _ :: s, .ret, st => GoE s .ret st
  | .bl _ :: s, .normal, st => GoE s .normal st
  | .bl id :: s, .exit i, st => GoE s (if i = id then .normal else .exit i) st
  | .bl _ :: s, .ret, st => GoE s .ret st
  | .ag c :: s, .normal, st => Run (loopω fns c st) fun r => GoE s r.1 r.2
  | .ag _ :: s, .exit i, st => GoE s (.exit i) st
  | .ag _ :: s, .ret, st => GoE s .ret st

variable (s : List Fr)
/-- A piece of code. -/
def GoC (c : ACode) (st : St) : Prop := Run (xexec (callω fns) (loopω fns) c st) fun r => GoE fns Q s r.1 r.2
/-- Operations, and behind them a piece of code. -/
def GoO (l : List AOper) (c : ACode) (st : St) : Prop := Run (opsK (callω fns) l st fun st => xexec (callω fns) (loopω fns) c st) fun r => GoE fns Q s r.1 r.2
/-- A value that goes to a slot. -/
def GV (x : Option AV) (d : Option Nat) (l : List AOper) (c : ACode) (st : St) : Prop := Run x fun v => GoO fns Q s l c (st.put d v)
/-- A value and the state behind it. -/
def GL (x : Option (AV × St)) (d : Option Nat) (l : List AOper) (c : ACode) : Prop := Run x fun q => GoO fns Q s l c (q.2.put d q.1)
/-- The state behind a store. -/
def GS (x : Option St) (d : Option Nat) (l : List AOper) (c : ACode) : Prop := Run x fun st => GoO fns Q s l c (st.put d .skipped)
/-- A text's iterator. -/
def GR (x : Option AV) (t : Nat) (d : Option Nat) (l : List AOper) (c : ACode) (st : St) : Prop := Run x fun v => Run (match v with | .str b => some b | _ => none) fun b => GoO fns Q s l c ((st.box t (.iter b 0)).put d (.ptr (.loc t) 0))
/-- What a call gives that is not handed the heap; that is. -/
def GK (x : Option (AV × H)) (d : Option Nat) (l : List AOper) (c : ACode) (st : St) : Prop := Run x fun q => GV fns Q s (noHeap st.h.n q) d l c st
def GH (x : Option (AV × H)) (d : Option Nat) (l : List AOper) (c : ACode) (st : St) : Prop := Run x fun q => GoO fns Q s l c (St.put ⟨st.s, st.b, q.2⟩ d q.1)
/-- A part of several results. -/
def GX (x : Option (AV × AV)) (t : Nat) (d : Option Nat) (l : List AOper) (c : ACode) (st : St) : Prop := Run x fun q => GoO fns Q s l c ((st.set t q.2).put d q.1)
/-- A guard. -/
def GG (v : AV) (w : Bool) (o : AOp) (d : Option Nat) (l : List AOper) (c : ACode) (st : St) : Prop :=
  Run (onGuard v w (fun _ => opK (callω fns) o st fun v st => some (st.put d v)) (fun _ => some (st.put d .skipped))) fun st => GoO fns Q s l c st
/-- A choice. -/
def GB (v : AV) (a b : ACode) (st : St) : Prop := Run (onBool v (fun _ => xexec (callω fns) (loopω fns) a st) (fun _ => xexec (callω fns) (loopω fns) b st)) fun r => GoE fns Q s r.1 r.2
/-- Arguments, those that are told, those to be told. -/
def GA (hc : Bool) (f : FuncId) (acc : List AV) (as : List (AX × Bool)) (d : Option Nat) (l : List AOper) (c : ACode) (st : St) : Prop :=
  Run (argsK as st fun vs st' => some (vs, st')) fun q => match hc with
    | false => GK fns Q s (callω fns f (acc ++ q.1) q.2.h.mask) d l c q.2
    | true => GH fns Q s (callω fns f (acc ++ q.1) q.2.h) d l c q.2
def mkB : Option (Nat × Nat) → List AV → AV
  | none, cs => .agg cs
  | some (e, sz), cs => .slice (.own true) e sz cs
/-- Parts filled in. -/
def GF (m : Option (Nat × Nat)) (ps : List (Nat × Nat × AX)) (x : Option (List AV)) (d : Option Nat) (l : List AOper) (c : ACode) (st : St) : Prop :=
  Run x fun cs => Run (fillK ps cs st fun cs st' => some (cs, st')) fun q => GoO fns Q s l c (q.2.put d (mkB m q.1))
end

section
variable {fns : FuncId → Option AFunc} {Q : Ex × St → Prop} {s : List Fr} {l : List AOper} {c : ACode} {st : St} {d : Option Nat}

@[simp] theorem goE_nil {e : Ex} : GoE fns Q [] e st = Q (e, st) := id rfl
@[simp] theorem goE_sq_n {k : ACode} : GoE fns Q (.sq k :: s) .normal st = GoC fns Q s k st := id rfl
@[simp] theorem goE_sq_e {k : ACode} {i : Nat} : GoE fns Q (.sq k :: s) (.exit i) st = GoE fns Q s (.exit i) st := id rfl
@[simp] theorem goE_sq_r {k : ACode} : GoE fns Q (.sq k :: s) .ret st = GoE fns Q s .ret st := id rfl
@[simp] theorem goE_bl_n {i : Nat} : GoE fns Q (.bl i :: s) .normal st = GoE fns Q s .normal st := id rfl
@[simp] theorem goE_bl_e {i j : Nat} : GoE fns Q (.bl i :: s) (.exit j) st = GoE fns Q s (if j = i then .normal else .exit j) st := id rfl
@[simp] theorem goE_bl_r {i : Nat} : GoE fns Q (.bl i :: s) .ret st = GoE fns Q s .ret st := id rfl
@[simp] theorem goE_ag_n {k : ACode} : GoE fns Q (.ag k :: s) .normal st = Run (loopω fns k st) fun r => GoE fns Q s r.1 r.2 := id rfl
@[simp] theorem goE_ag_e {k : ACode} {i : Nat} : GoE fns Q (.ag k :: s) (.exit i) st = GoE fns Q s (.exit i) st := id rfl
@[simp] theorem goE_ag_r {k : ACode} : GoE fns Q (.ag k :: s) .ret st = GoE fns Q s .ret st := id rfl

@[simp] theorem goC_skip : GoC fns Q s .skip st ↔ GoE fns Q s .normal st := Run_some' _ _
@[simp] theorem goC_exit {i : Nat} : GoC fns Q s (.exit i) st ↔ GoE fns Q s (.exit i) st := Run_some' _ _
@[simp] theorem goC_ret : GoC fns Q s .ret st ↔ GoE fns Q s .ret st := Run_some' _ _
theorem goC_ops {k : ACode} : GoC fns Q s (.ops l k) st ↔ GoO fns Q s l k st := Iff.rfl
theorem goC_seq {a k : ACode} : GoC fns Q s (.seq a k) st ↔ GoC fns Q (.sq k :: s) a st := by
  unfold GoC
  rw [show xexec (callω fns) (loopω fns) (.seq a k) st = obind (xexec (callω fns) (loopω fns) a st) (fun r => goOn r fun st => xexec (callω fns) (loopω fns) k st) from rfl, Run_obind]
  refine Run_iff fun ⟨e, st'⟩ => ?_
  cases e <;> first | exact Iff.rfl | exact Run_some' _ _
theorem goC_cond {x : AX} {a b : ACode} : GoC fns Q s (.cond x a b) st ↔ GB fns Q s (peek st x) a b st := Iff.rfl
theorem goC_block {i : Nat} {a : ACode} : GoC fns Q s (.block i a) st ↔ GoC fns Q (.bl i :: s) a st := by
  unfold GoC
  rw [show xexec (callω fns) (loopω fns) (.block i a) st = obind (xexec (callω fns) (loopω fns) a st) (blockEnd i) from rfl, Run_obind]
  refine Run_iff fun ⟨e, st'⟩ => ?_
  cases e <;> exact Run_some' _ _
theorem goC_loop {a : ACode} : GoC fns Q s (.loop a) st ↔ Run (loopω fns a st) fun r => GoE fns Q s r.1 r.2 := Iff.rfl
@[simp] theorem gB_t {a b : ACode} : GB fns Q s (.bool true) a b st ↔ GoC fns Q s a st := Iff.rfl
@[simp] theorem gB_f {a b : ACode} : GB fns Q s (.bool false) a b st ↔ GoC fns Q s b st := Iff.rfl

@[simp] theorem goO_nil : GoO fns Q s [] c st ↔ GoC fns Q s c st := Iff.rfl
@[simp] theorem gV_some {v : AV} : GV fns Q s (some v) d l c st ↔ GoO fns Q s l c (st.put d v) := Run_some' _ _
@[simp] theorem gL_some {q : AV × St} : GL fns Q s (some q) d l c ↔ GoO fns Q s l c (q.2.put d q.1) := Run_some' _ _
@[simp] theorem gS_some {st : St} : GS fns Q s (some st) d l c ↔ GoO fns Q s l c (st.put d .skipped) := Run_some' _ _
@[simp] theorem gR_some {b : List UInt8} {t : Nat} : GR fns Q s (some (.str b)) t d l c st ↔ GoO fns Q s l c ((st.box t (.iter b 0)).put d (.ptr (.loc t) 0)) := (Run_some' _ _).trans (Run_some' _ _)
@[simp] theorem gK_some {q : AV × H} : GK fns Q s (some q) d l c st ↔ GV fns Q s (noHeap st.h.n q) d l c st := Run_some' _ _
@[simp] theorem gH_some {q : AV × H} : GH fns Q s (some q) d l c st ↔ GoO fns Q s l c (St.put ⟨st.s, st.b, q.2⟩ d q.1) := Run_some' _ _
/-- By a law that tells some outcomes. -/
theorem gH_of {x : Option (AV × H)} {p : AV × H → Prop} (h : Run x p) (k : ∀ v h', p (v, h') → GoO fns Q s l c (St.put ⟨st.s, st.b, h'⟩ d v)) : GH fns Q s x d l c st := h.mono fun q hq => k _ _ hq
theorem gK_of {x : Option (AV × H)} {p : AV × H → Prop} (h : Run x p) (k : ∀ v h', p (v, h') → GV fns Q s (noHeap st.h.n (v, h')) d l c st) : GK fns Q s x d l c st := h.mono fun q hq => k _ _ hq
@[simp] theorem gX_some {q : AV × AV} {t : Nat} : GX fns Q s (some q) t d l c st ↔ GoO fns Q s l c ((st.set t q.2).put d q.1) := Run_some' _ _

theorem opK_step {o : AOp} : (Run (opK (callω fns) o st fun v st => some (st.put d v)) fun st => GoO fns Q s l c st) ↔ GoO fns Q s (⟨o, d, none⟩ :: l) c st := by
  constructor
  · rintro ⟨st1, h1, r, h2, h3⟩
    refine ⟨r, ?_, h3⟩
    show opK (callω fns) o st (fun v st => opsK (callω fns) l (st.put d v) fun st => xexec (callω fns) (loopω fns) c st) = some r
    rw [opK_comp (K := fun st => opsK (callω fns) l st fun st => xexec (callω fns) (loopω fns) c st) (callω fns) (fun v st y h => by injection h with h; rw [h]) o st st1 h1]; exact h2
  · rintro ⟨r, h1, h3⟩
    have h1' : opK (callω fns) o st (fun v st => opsK (callω fns) l (st.put d v) fun st => xexec (callω fns) (loopω fns) c st) = some r := h1
    obtain ⟨v, st', h4, h5⟩ := opK_val h1'
    rcases h5 with h5 | ⟨f, vs, h0, u, hu, h5⟩
    · exact ⟨st'.put d v, by rw [h5], r, h4, h3⟩
    · exact ⟨st'.put d v, by rw [h5 _ _ hu], r, h4, h3⟩
@[simp] theorem goO_guard {o : AOp} {j : Nat} {w : Bool} : GoO fns Q s (⟨o, d, some (j, w)⟩ :: l) c st ↔ GG fns Q s (st.s j) w o d l c st := Run_obind _ _ _
@[simp] theorem gG_tt {o : AOp} : GG fns Q s (.bool true) true o d l c st ↔ GoO fns Q s (⟨o, d, none⟩ :: l) c st := opK_step
@[simp] theorem gG_ff {o : AOp} : GG fns Q s (.bool false) false o d l c st ↔ GoO fns Q s (⟨o, d, none⟩ :: l) c st := opK_step
@[simp] theorem gG_tf {o : AOp} : GG fns Q s (.bool true) false o d l c st ↔ GoO fns Q s l c (st.put d .skipped) := Run_some' _ _
@[simp] theorem gG_ft {o : AOp} : GG fns Q s (.bool false) true o d l c st ↔ GoO fns Q s l c (st.put d .skipped) := Run_some' _ _
@[simp] theorem gG_sk {o : AOp} {w : Bool} : GG fns Q s .skipped w o d l c st ↔ GoO fns Q s l c (st.put d .skipped) := by cases w <;> exact Run_some' _ _

/-! ### The operations -/
@[simp] theorem go_move {m : Mode} {x : AX} : GoO fns Q s (⟨.move m x, d, none⟩ :: l) c st ↔ GoO fns Q s l c ((copy m st x).2.put d (copy m st x).1) := Iff.rfl
@[simp] theorem go_assign {x : AX} : GoO fns Q s (⟨.assign x, d, none⟩ :: l) c st ↔ GoO fns Q s l c ((take st x).2.put d (take st x).1) := Iff.rfl
@[simp] theorem go_pick {x a b : AX} : GoO fns Q s (⟨.pick x a b, d, none⟩ :: l) c st ↔ GV fns Q s (pkV (peek st x) (give st a).1 (give (give st a).2 b).1) d l c (give (give st a).2 b).2 := Run_obind _ _ _
@[simp] theorem go_newbox {t : Nat} {cs : List AV} : GoO fns Q s (⟨.newbox t cs, d, none⟩ :: l) c st ↔ GoO fns Q s l c ((st.box t (.cells cs)).put d (.ptr (.loc t) 0)) := Iff.rfl
@[simp] theorem go_newobj {cs : List AV} : GoO fns Q s (⟨.newobj cs, d, none⟩ :: l) c st ↔ GoO fns Q s l c ((st.pushH (.cells cs)).put d (.ptr (.obj st.h.n) 0)) := Iff.rfl
@[simp] theorem go_box {t : Nat} {x : AX} : GoO fns Q s (⟨.box t x, d, none⟩ :: l) c st ↔ (take st x).1.plain = true ∧ GoO fns Q s l c (((take st x).2.box t (.cells (take st x).1.cells)).put d (.ptr (.loc t) 0)) := by
  refine (Run_obind _ _ _).trans ?_
  unfold pln
  by_cases h : (take st x).1.plain = true
  · rw [if_pos h]; exact (Run_some' _ _).trans ⟨fun k => ⟨h, k⟩, fun k => k.2⟩
  · rw [if_neg h]; exact ⟨fun ⟨_, k, _⟩ => (by cases k), fun k => absurd k.1 h⟩
@[simp] theorem go_boxobj {x : AX} : GoO fns Q s (⟨.boxobj x, d, none⟩ :: l) c st ↔ (take st x).1.plain = true ∧ GoO fns Q s l c (((take st x).2.pushH (.cells (take st x).1.cells)).put d (.ptr (.obj (take st x).2.h.n) 0)) := by
  refine (Run_obind _ _ _).trans ?_
  unfold pln
  by_cases h : (take st x).1.plain = true
  · rw [if_pos h]; exact (Run_some' _ _).trans ⟨fun k => ⟨h, k⟩, fun k => k.2⟩
  · rw [if_neg h]; exact ⟨fun ⟨_, k, _⟩ => (by cases k), fun k => absurd k.1 h⟩
@[simp] theorem go_range {t : Nat} {x : AX} : GoO fns Q s (⟨.range t x, d, none⟩ :: l) c st ↔ GR fns Q s (cvSS (peek st x)) t d l c st := by
  refine (Run_obind _ _ _).trans (Run_iff fun v => ?_)
  cases v with
  | str b => exact ⟨fun h => ⟨b, rfl, h⟩, fun ⟨b', e, h⟩ => by injection e with e; subst e; exact h⟩
  | _ => exact ⟨fun ⟨_, h, _⟩ => (by cases h), fun ⟨_, h, _⟩ => (by cases h)⟩
@[simp] theorem go_next {x : AX} : GoO fns Q s (⟨.next x, d, none⟩ :: l) c st ↔ GL fns Q s (nextV (peek st x) st) d l c := Run_obind _ _ _
@[simp] theorem go_mkSl {o : Bool} {e sz by' : Nat} {z : List AV} {x y : AX} : GoO fns Q s (⟨.mkSl o e sz by' z x y, d, none⟩ :: l) c st ↔ GL fns Q s (mkV o e sz by' z (peek st x) (peek st y) st) d l c := Run_obind _ _ _
@[simp] theorem go_copyB {sz : Nat} {str : Bool} {x y : AX} : GoO fns Q s (⟨.copyB sz str x y, d, none⟩ :: l) c st ↔ GL fns Q s (cpRow sz str (give st x).1 (peek (give st x).2 y) (give st x).2) d l c := Run_obind _ _ _
@[simp] theorem go_load {m : Mode} {a : Bool} {n : Nat} {x : AX} : GoO fns Q s (⟨.load m a n x, d, none⟩ :: l) c st ↔ GL fns Q s (ldV m a n (peek st x) st) d l c := Run_obind _ _ _
@[simp] theorem go_store {n : Nat} {x y : AX} : GoO fns Q s (⟨.store n x y, d, none⟩ :: l) c st ↔ GS fns Q s (stV n (peek st x) (take st y).1 (take st y).2) d l c := Run_obind _ _ _
@[simp] theorem go_nilCheck {x : AX} : GoO fns Q s (⟨.nilCheck x, d, none⟩ :: l) c st ↔ GV fns Q s (nnV (peek st x)) d l c st := Run_obind _ _ _
@[simp] theorem go_bin {op : BinOp} {kd : Nat} {lit : Bool} {x y : AX} : GoO fns Q s (⟨.bin op kd lit x y, d, none⟩ :: l) c st ↔ GV fns Q s (aBin op kd lit (peek st x) (peek st y)) d l c st := Run_obind _ _ _
@[simp] theorem go_un {op : UnOp} {x : AX} : GoO fns Q s (⟨.un op x, d, none⟩ :: l) c st ↔ GV fns Q s (aUn op (peek st x)) d l c st := Run_obind _ _ _
@[simp] theorem go_convInt {k : IntKind} {x : AX} : GoO fns Q s (⟨.convInt k x, d, none⟩ :: l) c st ↔ GV fns Q s (cvInt k (peek st x)) d l c st := Run_obind _ _ _
@[simp] theorem go_convBS {x : AX} : GoO fns Q s (⟨.convBS x, d, none⟩ :: l) c st ↔ GV fns Q s (cvBS (give st x).2.h (give st x).1) d l c (give st x).2 := Run_obind _ _ _
@[simp] theorem go_convSB {e : Nat} {x : AX} : GoO fns Q s (⟨.convSB e x, d, none⟩ :: l) c st ↔ GV fns Q s (cvSB e (peek st x)) d l c st := Run_obind _ _ _
@[simp] theorem go_convSS {x : AX} : GoO fns Q s (⟨.convSS x, d, none⟩ :: l) c st ↔ GV fns Q s (cvSS (peek st x)) d l c st := Run_obind _ _ _
@[simp] theorem go_mkIface {t : TypeId} {x : AX} : GoO fns Q s (⟨.mkIface t x, d, none⟩ :: l) c st ↔ GV fns Q s (mkI t (give st x).1) d l c (give st x).2 := Run_obind _ _ _
@[simp] theorem go_sliceStr {x : AX} {lo hi : Option AX} : GoO fns Q s (⟨.sliceStr x lo hi, d, none⟩ :: l) c st ↔ GV fns Q s (slStr (peek st x) (bound st lo (some 0)) (bound st hi (lenV (peek st x)))) d l c st := Run_obind _ _ _
@[simp] theorem go_sliceSl {sz : Nat} {x : AX} {lo hi : Option AX} : GoO fns Q s (⟨.sliceSl sz x lo hi, d, none⟩ :: l) c st ↔ GV fns Q s (slSl sz (give st x).1 (bound st lo (some 0)) (bound st hi (lenV (give st x).1))) d l c (give st x).2 := Run_obind _ _ _
@[simp] theorem go_fieldAddr {off : Nat} {x : AX} : GoO fns Q s (⟨.fieldAddr off x, d, none⟩ :: l) c st ↔ GV fns Q s (fdV off (peek st x)) d l c st := Run_obind _ _ _
@[simp] theorem go_field {a : Bool} {n off : Nat} {x : AX} : GoO fns Q s (⟨.field a n off x, d, none⟩ :: l) c st ↔ GV fns Q s (aPart a n off (peek st x)) d l c st := Run_obind _ _ _
@[simp] theorem go_indexAddr {sz : Nat} {x i : AX} : GoO fns Q s (⟨.indexAddr sz x i, d, none⟩ :: l) c st ↔ GV fns Q s (ixV sz (give st x).1 (peek st i)) d l c (give st x).2 := Run_obind _ _ _
@[simp] theorem go_indexStr {x i : AX} : GoO fns Q s (⟨.indexStr x i, d, none⟩ :: l) c st ↔ GV fns Q s (ixStr (peek st x) (peek st i)) d l c st := Run_obind _ _ _
@[simp] theorem go_extract {t i : Nat} : GoO fns Q s (⟨.extract t i, d, none⟩ :: l) c st ↔ GX fns Q s (exV (st.s t) i) t d l c st := Run_obind _ _ _
@[simp] theorem go_len {b : Bool} {x : AX} : GoO fns Q s (⟨.len b x, d, none⟩ :: l) c st ↔ GV fns Q s (aLen b (peek st x)) d l c st := Run_obind _ _ _
@[simp] theorem go_append {e sz bytes : Nat} {str : Bool} {x y : AX} : GoO fns Q s (⟨.append e sz bytes str x y, d, none⟩ :: l) c st ↔ GV fns Q s (apV (take st x).2.h e sz bytes str (take st x).1 (peek st y)) d l c (take st x).2 := Run_obind _ _ _

theorem argsK_split {as : List (AX × Bool)} : ∀ {β : Type} {st : St} {k : List AV → St → Option β} {P : β → Prop}, Run (argsK as st k) P ↔ Run (argsK as st fun vs st' => some (vs, st')) fun q => Run (k q.1 q.2) P := by
  induction as with
  | nil => intro β st k P; exact ⟨fun h => ⟨([], st), rfl, h⟩, fun ⟨q, h, hq⟩ => by injection h with h; subst h; exact hq⟩
  | cons a as ih =>
    intro β st k P
    obtain ⟨x, b⟩ := a
    cases b with
    | true =>
      refine (Run_obind _ _ _).trans (Iff.trans (Run_iff fun _ => ?_) (Run_obind _ _ _).symm)
      rw [ih, ih (k := fun vs st' => some ((take st x).1 :: vs, st'))]
      exact Run_iff fun q => ⟨fun h => ⟨_, rfl, h⟩, fun ⟨_, e, h⟩ => by cases e; exact h⟩
    | false =>
      refine (Run_obind _ _ _).trans (Iff.trans (Run_iff fun _ => ?_) (Run_obind _ _ _).symm)
      rw [ih, ih (k := fun vs st' => some ((give st x).1 :: vs, st'))]
      exact Run_iff fun q => ⟨fun h => ⟨_, rfl, h⟩, fun ⟨_, e, h⟩ => by cases e; exact h⟩
@[simp] theorem go_call {f : FuncId} {as : List (AX × Bool)} : GoO fns Q s (⟨.call f as, d, none⟩ :: l) c st ↔ GA fns Q s false f [] as d l c st := by
  refine (argsK_split (k := fun vs st => obind (obind (callω fns f vs st.h.mask) (noHeap st.h.n)) fun v => opsK (callω fns) l (st.put d v) fun st => xexec (callω fns) (loopω fns) c st)).trans (Run_iff fun q => ?_)
  refine (Run_obind _ _ _).trans ?_
  exact Run_obind _ _ _
@[simp] theorem go_hcall {f : FuncId} {as : List (AX × Bool)} : GoO fns Q s (⟨.hcall f as, d, none⟩ :: l) c st ↔ GA fns Q s true f [] as d l c st := by
  refine (argsK_split (k := fun vs st => obind (callω fns f vs st.h) fun q => opsK (callω fns) l (St.put ⟨st.s, st.b, q.2⟩ d q.1) fun st => xexec (callω fns) (loopω fns) c st)).trans (Run_iff fun q => ?_)
  exact Run_obind _ _ _
@[simp] theorem gA_nil {f : FuncId} {acc : List AV} : GA fns Q s false f acc [] d l c st ↔ GK fns Q s (callω fns f acc st.h.mask) d l c st := by
  refine (Run_some' _ _).trans ?_
  rw [List.append_nil]
@[simp] theorem gA_nilh {f : FuncId} {acc : List AV} : GA fns Q s true f acc [] d l c st ↔ GH fns Q s (callω fns f acc st.h) d l c st := by
  refine (Run_some' _ _).trans ?_
  rw [List.append_nil]
theorem gA_cons {hc : Bool} {f : FuncId} {acc : List AV} {as : List (AX × Bool)} {v : AV} {st' : St} {k : List AV → St → Option (List AV × St)} (hk : k = fun vs st' => some (v :: vs, st')) :
    (Run (obind (pln v) fun _ => argsK as st' k) fun q => match hc with
      | false => GK fns Q s (callω fns f (acc ++ q.1) q.2.h.mask) d l c q.2
      | true => GH fns Q s (callω fns f (acc ++ q.1) q.2.h) d l c q.2) ↔ v.plain = true ∧ GA fns Q s hc f (acc ++ [v]) as d l c st' := by
  subst hk
  refine (Run_obind _ _ _).trans ?_
  unfold pln
  by_cases h : v.plain = true
  · rw [if_pos h]
    refine (Run_some' _ _).trans (Iff.trans ?_ (show _ ↔ _ from ⟨fun k => ⟨h, k⟩, fun k => k.2⟩))
    rw [argsK_split]
    refine Run_iff fun q => (Run_some' _ _).trans ?_
    rw [List.append_assoc]; rfl
  · rw [if_neg h]; exact ⟨fun ⟨_, k, _⟩ => (by cases k), fun k => absurd k.1 h⟩
@[simp] theorem gA_t {hc : Bool} {f : FuncId} {acc : List AV} {x : AX} {as : List (AX × Bool)} : GA fns Q s hc f acc ((x, true) :: as) d l c st ↔ (take st x).1.plain = true ∧ GA fns Q s hc f (acc ++ [(take st x).1]) as d l c (take st x).2 := gA_cons rfl
@[simp] theorem gA_g {hc : Bool} {f : FuncId} {acc : List AV} {x : AX} {as : List (AX × Bool)} : GA fns Q s hc f acc ((x, false) :: as) d l c st ↔ (give st x).1.plain = true ∧ GA fns Q s hc f (acc ++ [(give st x).1]) as d l c (give st x).2 := gA_cons rfl

theorem fillK_split {β : Type} {ps : List (Nat × Nat × AX)} : ∀ {cs : List AV} {st : St} {k : List AV → St → Option β} {P : β → Prop}, Run (fillK ps cs st k) P ↔ Run (fillK ps cs st fun cs st' => some (cs, st')) fun q => Run (k q.1 q.2) P := by
  induction ps with
  | nil => intro cs st k P; exact ⟨fun h => ⟨(cs, st), rfl, h⟩, fun ⟨q, h, hq⟩ => by injection h with h; subst h; exact hq⟩
  | cons p ps ih =>
    intro cs st k P
    obtain ⟨off, n, x⟩ := p
    refine (Run_obind _ _ _).trans (Iff.trans (Run_iff fun _ => ?_) (Run_obind _ _ _).symm)
    exact ih
@[simp] theorem go_build {z : List AV} {ps : List (Nat × Nat × AX)} : GoO fns Q s (⟨.build z ps, d, none⟩ :: l) c st ↔ GF fns Q s none ps (some z) d l c st := by
  refine (fillK_split (k := fun cs st => opsK (callω fns) l (st.put d (.agg cs)) fun st => xexec (callω fns) (loopω fns) c st)).trans ?_
  exact ⟨fun h => ⟨z, rfl, h⟩, fun ⟨_, e, h⟩ => by cases e; exact h⟩
@[simp] theorem go_buildSl {e sz : Nat} {z : List AV} {ps : List (Nat × Nat × AX)} : GoO fns Q s (⟨.buildSl e sz z ps, d, none⟩ :: l) c st ↔ GF fns Q s (some (e, sz)) ps (some z) d l c st := by
  refine (fillK_split (k := fun cs st => opsK (callω fns) l (st.put d (.slice (.own true) e sz cs)) fun st => xexec (callω fns) (loopω fns) c st)).trans ?_
  exact ⟨fun h => ⟨z, rfl, h⟩, fun ⟨_, e, h⟩ => by cases e; exact h⟩
@[simp] theorem gF_nil {m : Option (Nat × Nat)} {cs : List AV} : GF fns Q s m [] (some cs) d l c st ↔ GoO fns Q s l c (st.put d (mkB m cs)) := (Run_some' _ _).trans (Run_some' _ _)
@[simp] theorem gF_cons {m : Option (Nat × Nat)} {off n : Nat} {x : AX} {ps : List (Nat × Nat × AX)} {cs : List AV} : GF fns Q s m ((off, n, x) :: ps) (some cs) d l c st ↔ GF fns Q s m ps (fillV cs off n (give st x).1) d l c (give st x).2 :=
  (Run_some' _ _).trans (Run_obind _ _ _)
@[simp] theorem mkB_none {cs : List AV} : mkB none cs = .agg cs := id rfl
@[simp] theorem mkB_some {e sz : Nat} {cs : List AV} : mkB (some (e, sz)) cs = .slice (.own true) e sz cs := id rfl

/-! ### The state -/
@[simp] theorem ev_peek_t {n : Nat} : peek st (.t n) = hdV (st.s n) := id rfl
@[simp] theorem ev_peek_p {n : Nat} : peek st (.p n) = st.s n := id rfl
@[simp] theorem ev_peek_c {v : AV} : peek st (.c v) = v := id rfl
@[simp] theorem ev_give_t {n : Nat} : give st (.t n) = (gvV (st.s n), st.set n (gvV (st.s n))) := id rfl
@[simp] theorem ev_give_p {n : Nat} : give st (.p n) = (hdV (st.s n), st) := id rfl
@[simp] theorem ev_give_c {v : AV} : give st (.c v) = (v, st) := id rfl
@[simp] theorem ev_take_t {n : Nat} : take st (.t n) = (st.s n, st.set n (lfV (st.s n))) := id rfl
@[simp] theorem ev_take_p {n : Nat} : take st (.p n) = (hdV (st.s n), st) := id rfl
@[simp] theorem ev_take_c {v : AV} : take st (.c v) = (v, st) := id rfl
@[simp] theorem ev_copy_t {m : Mode} {n : Nat} : copy m st (.t n) = (cpV m (st.s n), st.set n (cpS m (st.s n))) := id rfl
@[simp] theorem ev_copy_p {m : Mode} {n : Nat} : copy m st (.p n) = (hdV (st.s n), st) := id rfl
@[simp] theorem ev_copy_c {m : Mode} {v : AV} : copy m st (.c v) = (v, st) := id rfl
@[simp] theorem ev_put_some {t : Nat} {v : AV} : st.put (some t) v = st.set t v := id rfl
@[simp] theorem ev_put_none {v : AV} : st.put none v = st := id rfl
@[simp] theorem ev_set {t : Nat} {v : AV} : st.set t v = ⟨upd st.s t v, st.b, st.h⟩ := id rfl
@[simp] theorem ev_pushH {o : Obj} : st.pushH o = ⟨st.s, st.b, st.h.push o⟩ := id rfl
@[simp] theorem ev_at_loc {t : Nat} : st.at (.loc t) = st.b t := id rfl
@[simp] theorem ev_at_obj {i : Nat} : st.at (.obj i) = st.h.get i := id rfl
@[simp] theorem ev_setAt_loc {t : Nat} {o : Obj} : st.setAt (.loc t) o = ⟨st.s, upd st.b t (some o), st.h⟩ := id rfl
@[simp] theorem ev_setAt_obj {i : Nat} {o : Obj} : st.setAt (.obj i) o = ⟨st.s, st.b, st.h.set i o⟩ := id rfl
@[simp] theorem ev_upd {α : Type} {s : Nat → α} {i j : Nat} {v : α} : upd s i v j = if j = i then v else s j := id rfl
@[simp] theorem ev_upd_upd {α : Type} {s : Nat → α} {i : Nat} {v w : α} : upd (upd s i v) i w = upd s i w := by funext j; simp only [upd]; split <;> rfl
@[simp] theorem ev_box_s {t j : Nat} {o : Obj} : (st.box t o).s j = (st.s j).kill t := id rfl
@[simp] theorem ev_box_b {t : Nat} {o : Obj} : (st.box t o).b = upd st.b t (some o) := id rfl
@[simp] theorem ev_box_h {t : Nat} {o : Obj} : (st.box t o).h = st.h := id rfl
end

/-- A function's end. -/
def xends (rs : List ARes) (r : Ex × St) : Option (AV × H) :=
  match r.1 with
  | .exit _ => none
  | .normal => obind (xresults rs r.2) fun vs => some (oneOrTup vs.1, vs.2.h)
  | .ret => obind (xresults rs r.2) fun vs => some (oneOrTup vs.1, vs.2.h)
@[simp] theorem xends_normal (rs : List ARes) (st : St) : xends rs (.normal, st) = obind (xresults rs st) fun vs => some (oneOrTup vs.1, vs.2.h) := id rfl
@[simp] theorem xends_ret (rs : List ARes) (st : St) : xends rs (.ret, st) = obind (xresults rs st) fun vs => some (oneOrTup vs.1, vs.2.h) := id rfl

section
variable (fns : FuncId → Option AFunc)
/-- A loop: one round, then the loop again. -/
theorem loopω_run {c : ACode} {st : St} {Q : Ex × St → Prop} (h : GoC fns Q [.ag c] c st) : Run (loopω fns c st) Q := by
  obtain ⟨⟨e, st'⟩, h1, h2⟩ := h
  cases e with
  | normal =>
    obtain ⟨r2, h2, hq⟩ := h2
    exact ⟨r2, loopω_of fns (by rw [h1]; exact h2), hq⟩
  | exit i => exact ⟨_, loopω_of fns (by rw [h1]; rfl), h2⟩
  | ret => exact ⟨_, loopω_of fns (by rw [h1]; rfl), h2⟩
/-- A call. -/
theorem callω_run {f : FuncId} {af : AFunc} (hf : fns f = some af) {c : ACode} {rs : List ARes} (hc : af.code = c) (hrs : af.res = rs) {vs : List AV} {h0 : H} (hl : vs.length ≤ af.n) {r : AV × H}
    (h : GoC fns (fun e => xends rs e = some r) [] c ⟨fun j => (vs[j]?).getD .undef, fun _ => none, h0⟩) : callω fns f vs h0 = some r := by
  subst hc; subst hrs
  obtain ⟨e, h1, h2⟩ := h
  exact callω_of fns hf hl (by unfold xbody; rw [h1]; exact h2)
/-- The same, of which some outcomes are told. -/
theorem callω_runs {f : FuncId} {af : AFunc} (hf : fns f = some af) {c : ACode} {rs : List ARes} (hc : af.code = c) (hrs : af.res = rs) {vs : List AV} {h0 : H} (hl : vs.length ≤ af.n) {p : AV × H → Prop}
    (h : GoC fns (fun e => Run (xends rs e) p) [] c ⟨fun j => (vs[j]?).getD .undef, fun _ => none, h0⟩) : Run (callω fns f vs h0) p := by
  obtain ⟨e, h1, r, h2, h3⟩ := h
  exact ⟨r, callω_run fns hf hc hrs hl ⟨e, h1, h2⟩, h3⟩
end

/-! Whole numbers bit by bit, under names of their own. -/
def andI (k : IntKind) (x y : Int) : Int := k.wrap (BitVec.ofInt k.bits x &&& BitVec.ofInt k.bits y).toNat
def orI (k : IntKind) (x y : Int) : Int := k.wrap (BitVec.ofInt k.bits x ||| BitVec.ofInt k.bits y).toNat
def xorI (k : IntKind) (x y : Int) : Int := k.wrap (BitVec.ofInt k.bits x ^^^ BitVec.ofInt k.bits y).toNat
def andNotI (k : IntKind) (x y : Int) : Int := k.wrap (BitVec.ofInt k.bits x &&& ~~~(BitVec.ofInt k.bits y)).toNat
section
variable {k : IntKind} {x y : Int}
@[simp] theorem aInt_add : aInt .add k x y = some (.int k (k.wrap (x + y))) := id rfl
@[simp] theorem aInt_sub : aInt .sub k x y = some (.int k (k.wrap (x - y))) := id rfl
@[simp] theorem aInt_mul : aInt .mul k x y = some (.int k (k.wrap (x * y))) := id rfl
@[simp] theorem aInt_quo : aInt .quo k x y = if y = 0 then none else some (.int k (k.wrap (x.tdiv y))) := id rfl
@[simp] theorem aInt_rem : aInt .rem k x y = if y = 0 then none else some (.int k (x.tmod y)) := id rfl
@[simp] theorem aInt_and : aInt .and k x y = some (.int k (andI k x y)) := id rfl
@[simp] theorem aInt_or : aInt .or k x y = some (.int k (orI k x y)) := id rfl
@[simp] theorem aInt_xor : aInt .xor k x y = some (.int k (xorI k x y)) := id rfl
@[simp] theorem aInt_andNot : aInt .andNot k x y = some (.int k (andNotI k x y)) := id rfl
@[simp] theorem aInt_eql : aInt .eql k x y = some (.bool (decide (x = y))) := id rfl
@[simp] theorem aInt_neq : aInt .neq k x y = some (.bool (!decide (x = y))) := id rfl
@[simp] theorem aInt_lss : aInt .lss k x y = some (.bool (decide (x < y))) := id rfl
@[simp] theorem aInt_leq : aInt .leq k x y = some (.bool (decide (x ≤ y))) := id rfl
@[simp] theorem aInt_gtr : aInt .gtr k x y = some (.bool (decide (y < x))) := id rfl
@[simp] theorem aInt_geq : aInt .geq k x y = some (.bool (decide (y ≤ x))) := id rfl
end
attribute [simp] ldV stV cvInt aBin aEq aStr fillV splice xresults xres pln oneOrTup bne ixStr bound
@[simp] theorem int_beq (a b : Int) : (a == b) = decide (a = b) := rfl

theorem wrap_i64 {n : Int} (h0 : -9223372036854775808 ≤ n) (h1 : n ≤ 9223372036854775807) : IntKind.i64.wrap n = n := by
  simp [IntKind.wrap, IntKind.signed, IntKind.bits]; omega
end Go.Proofs.Ytfamhjnjlgdglaa.Abs
