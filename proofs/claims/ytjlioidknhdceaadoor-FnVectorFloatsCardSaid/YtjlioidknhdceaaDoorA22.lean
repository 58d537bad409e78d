/- Functions and calls, by the depth allowed; the interpreter at its limit. -/
import Derived.Test.YtjlioidknhdceaaDoorA21
namespace Go.Proofs.YtjlioidknhdceaaDoor.Abs
set_option linter.all false
set_option linter.unusedVariables false

variable {P : Program} {sg : FuncId → Nat → Nat} {w w' : World} {G G' : Gh} {a : Act} {o : Oper} {Q : Exit → Act → World → Prop}
variable {w0 : World} {F0 : FT} {A : Nat → Prop} {n : Nat} {st : St} {β : Type}
variable {cl : FuncId → List AV → H → T (AV × H)} {lp : ACode → St → T (Ex × St)}

def XOk (P : Program) (f : FuncId) (x : List AV → H → Option (T (AV × H))) : Prop :=
  ∀ vs h0 t, x vs h0 = some t → ∀ R : AV × H → Prop, t.All R → ∀ (w : World) (G : Gh) (args : Array Value), args.size = vs.length → (∀ i (h : i < vs.length) (h' : i < args.size), TC w G (.arg i) vs[i] args[i] ∧ vs[i].plain = true) → HR w G h0 →
    (∀ b, outOwn G.ω b → b < w.heap.size) → (∀ b, w.heap.size ≤ b → G.Fr b = 0) → Calls P f args w (fun e w' => ∃ r, R r ∧ CallPost w G.Fr (outOwn G.ω) r e w')
theorem xok_none (P : Program) (f : FuncId) : XOk P f fun _ _ => none := fun _ _ _ h => by cases h
def XOk0 (P : Program) (f : FuncId) (x : List AV → H → Option AV) : Prop :=
  ∀ vs h0 v, x vs h0 = some v → (∀ u ∈ vs, u.isOwn = false) ∧ ∀ (w : World) (G : Gh) (args : Array Value), HR w G h0 → args.size = vs.length → (∀ i (h : i < vs.length) (h' : i < args.size), CR w G.Fr vs[i] args[i]) →
    Calls P f args w fun e w' => w' = w ∧ ∃ u, e = .returned u ∧ CR w G.Fr v u
def xPure (x : List AV → H → Option AV) : List AV → H → Option (T (AV × H)) := fun vs h => (x vs h).map fun v => .ret (v, h)

def FnsOk (P : Program) (sg : FuncId → Nat → Nat) (fns : FuncId → Option AFunc) : Prop :=
  ∀ f af, fns f = some af → ∃ fn, P.funcs[f]? = some fn ∧ (fn.name == "runtime.NumGoroutine") = false ∧ (∃ hs, pFunc P sg hs fn = some ⟨af.n, af.code, af.res, fun _ _ => none⟩) ∧ XOk P f af.x

theorem run_results (fn : Func) (tmps : Array Value) {us : List Value} (h : (fn.results.toList.mapM (resOne tmps)).run P w = .ok us w) :
    (results fn tmps).run P w = .ok (if h : us.length = 1 then us[0] else .tuple us.toArray) w := by
  have h1 : (fn.results.mapM (resOne tmps)).run P w = .ok us.toArray w := by
    rw [Array.mapM_eq_mapM_toList]
    simp [h]
  have h2 : results fn tmps = (do
    let vs ← fn.results.mapM (resOne tmps)
    pure (if h : vs.size = 1 then vs[0] else .tuple vs)) := by
    unfold results
    have : (resOne tmps) = (fun | .tmp t => pure (tmps.getD t undef) | .cell a t => do loadVar t (← asAddr (tmps.getD a undef))) := by
      funext r; cases r <;> rfl
    rw [this]
    rfl
  rw [h2]
  simp [h1]

theorem body_sound (hcl : CallOk P cl) (hlp : LoopOk P sg lp) (hm : P.follows .mixedOrders = true) {hs : Nat → Nat} {f : FuncId} {fn : Func} {af : AFunc} (hf : P.funcs[f]? = some fn) (hpf : pFunc P sg hs fn = some af)
    {vs : List AV} {h0 : H} {R : AV × H → Prop} (hlen : vs.length ≤ af.n) (hr : (xbody cl lp af vs h0).All R) {w : World} {G : Gh} {args : Array Value} (hsz : args.size = vs.length)
    (hargs : ∀ i (h : i < vs.length) (h' : i < args.size), TC w G (.arg i) vs[i] args[i] ∧ vs[i].plain = true) (hheap : HR w G h0) (hlt : ∀ b, outOwn G.ω b → b < w.heap.size) (hfr : ∀ b, w.heap.size ≤ b → G.Fr b = 0) :
    Calls P f args w (fun e w' => ∃ r, R r ∧ CallPost w G.Fr (outOwn G.ω) r e w') := by
  simp only [pFunc, Option.bind_eq_some_iff, Option.map_eq_some_iff] at hpf
  obtain ⟨c, hbody, x, hx, rs, hrs, rfl⟩ := hpf
  simp only [xbody, T.All_bind, T.All_ofO] at hr
  simp only at hlen
  let ω0 : Nat → Pos := fun b => match G.ω b with | .arg i => .slot i 0 | .box (.obj i) => .box (.obj i) | .cell (.obj i) c => .cell (.obj i) c | _ => .free
  have hω0 : ∀ b i, G.ω b = .arg i → ω0 b = .slot i 0 := fun b i h => by simp only [ω0, h]
  let st0 : St := ⟨fun j => (vs[j]?).getD .undef, fun _ => none, h0⟩
  let a0 : Act := { tmps := args ++ Array.replicate (fn.ntmps - args.size) undef, defers := [] }
  have hS : SR w G.Fr (outOwn G.ω) fn.ntmps st0 a0 w ⟨G.Fr, fun _ => none, ω0⟩ := by
    refine ⟨by simp only [a0, Array.size_append, Array.size_replicate]; omega, rfl, fun t => ?_, fun s cs hs => (by cases hs), ?_, Kp.refl _ _, Ext.refl _ _, fun b hb => ?_, fun _ _ _ => rfl, hfr, fun _ _ => rfl⟩
    · by_cases ht : t < vs.length
      · have e1 : (vs[t]?).getD .undef = vs[t] := by rw [List.getElem?_eq_getElem ht]; rfl
        have e2 : a0.tmps.getD t undef = args[t] := by
          simp [a0, Array.getD_eq_getD_getElem?, Array.getElem?_append, hsz, ht]
        obtain ⟨h1, h2⟩ := hargs t ht (by omega)
        show TR w _ (.slot t) ((vs[t]?).getD .undef) _
        rw [e1, e2]
        exact TR_of_TC (h1.pos (β2 := fun _ => none) (fun b hb => hω0 b t hb)) h2
      · have e1 : (vs[t]?).getD .undef = .undef := by rw [List.getElem?_eq_none (by omega)]; rfl
        show TR w _ (.slot t) ((vs[t]?).getD .undef) _
        rw [e1]; trivial
    · refine ⟨fun i ob hi => BoxR.keeps (G := G) (G' := ⟨G.Fr, fun _ => none, ω0⟩) (Ext.refl _ _) (fun t ht => ht) (fun p hp b hb _ => ⟨rfl, rfl, ?_⟩) (hheap.box i ob hi), hheap.ids, hheap.glob⟩
      have hb' : G.ω b = p := hb
      rcases hp with rfl | ⟨c, rfl⟩ <;> simp only [ω0, hb']
    · have key : outOwn G.ω b → b < w.heap.size ∧ (outOwn G.ω b ∨ w.heap.size ≤ b) := fun ho => ⟨hlt b ho, .inl ho⟩
      simp only [ω0] at hb
      split at hb
      · rename_i i hi; exact key (by unfold outOwn; rw [hi]; rfl)
      · rename_i i hi; exact key (by unfold outOwn; rw [hi]; rfl)
      · rename_i i hi; exact key (by unfold outOwn; rw [hi]; rfl)
      · exact absurd rfl hb
  refine calls_of_wp hf hbody (wp_mono (code_sound hcl hlp hm hx hr hS) ?_)
  have fin : ∀ {st : St} {a : Act} {w' : World} {G' : Gh} {us : List AV × St}, SR w G.Fr (outOwn G.ω) fn.ntmps st a w' G' → xresults rs st = some us → R (oneOrTup us.1, us.2.h) →
      a.defers = [] ∧ ∃ v, (results fn a.tmps).run P w' = .ok v w' ∧ ∃ r, R r ∧ CallPost w G.Fr (outOwn G.ω) r (.returned v) w' := by
    intro st a w' G' us hS' hus hr'
    obtain ⟨vs', G2, e1, _, e3, e4, _, e6⟩ := results_sound (if us.1.length = 1 then 0 else 1) hrs hus hS'
    refine ⟨hS'.defers, _, run_results fn a.tmps e1, _, hr', _, G2.Fr, G2.ω, rfl, e4.kept, e4.ext, e4.same, e4.fresh, ?_, ?_, fun b hb => e4.mine b (fun e => by unfold outOwn at hb; rw [e] at hb; cases hb)⟩
    · show TR w' _ .arg (oneOrTup us.1) _
      by_cases h1 : us.1.length = 1
      · obtain ⟨us1, us2⟩ := us
        simp only at h1 e3 e6 ⊢
        obtain ⟨u, rfl⟩ := List.length_eq_one_iff.1 h1
        obtain ⟨v, rfl⟩ := List.length_eq_one_iff.1 (e3.trans h1)
        have := e6 0 (by simp) (by simp)
        simp only [List.length_cons, List.length_nil, if_true, Nat.zero_add, List.getElem_cons_zero] at this
        simp only [oneOrTup, List.length_cons, List.length_nil, dite_true, List.getElem_cons_zero, Nat.zero_add]
        exact TR_of_TC (TC.pos (β2 := fun _ => none) (ω1 := G2.ω) (β1 := G2.β) (p := .arg 0) (fun _ h => h) this.1) this.2
      · rw [if_neg h1] at e6
        have hot : oneOrTup us.1 = .tup us.1 := by
          unfold oneOrTup; split
          · rename_i hh; rw [hh] at h1; simp at h1
          · rfl
        rw [hot, dif_neg (by rw [e3]; exact h1)]
        refine ⟨vs'.toArray, rfl, by simpa using e3, fun j hj hj' => ?_⟩
        have := e6 j hj (by simpa using hj')
        rw [Nat.add_comm 1 j] at this
        simpa using TC.pos (β2 := fun _ => none) (ω1 := G2.ω) (β1 := G2.β) (p := .arg (j + 1)) (fun _ h => h) this.1
    · exact ⟨fun i ob hi => BoxR.keeps (G := G2) (G' := ⟨G2.Fr, fun _ => none, G2.ω⟩) (Ext.refl _ _) (fun t ht => ht) (fun p hp b hb _ => ⟨rfl, rfl, hb⟩) (e4.heap.box i ob hi), e4.heap.ids, e4.heap.glob⟩
  intro e a w' hq
  cases e with
  | normal =>
    obtain ⟨st', G', h1, h2⟩ := hq
    simp only [xexec, T.All_ret, xend, obind_eq_some] at h2
    obtain ⟨r, ⟨us, hus, hr1⟩, hR⟩ := h2
    injection hr1 with hr1; subst hr1
    exact fin h1 hus hR
  | ret =>
    obtain ⟨st', G', h1, h2⟩ := hq
    simp only [xend, obind_eq_some] at h2
    obtain ⟨r, ⟨us, hus, hr1⟩, hR⟩ := h2
    injection hr1 with hr1; subst hr1
    exact fin h1 hus hR
  | exit id =>
    obtain ⟨st', G', h1, h2⟩ := hq
    obtain ⟨r, hr1, _⟩ := h2
    cases hr1
  | _ => exact hq.elim

theorem entered_sound (hcl : CallOk P cl) (hlp : LoopOk P sg lp) (hm : P.follows .mixedOrders = true) {hs : Nat → Nat} {f : FuncId} {fn : Func} {af : AFunc} (hf : P.funcs[f]? = some fn) (hpf : pFunc P sg hs fn = some ⟨af.n, af.code, af.res, fun _ _ => none⟩)
    (hxo : XOk P f af.x) {vs : List AV} {h0 : H} {R : AV × H → Prop} (hlen : vs.length ≤ af.n) (hr : (match af.x vs h0 with | some t => t | none => xbody cl lp af vs h0).All R) {w : World} {G : Gh} {args : Array Value} (hsz : args.size = vs.length)
    (hargs : ∀ i (h : i < vs.length) (h' : i < args.size), TC w G (.arg i) vs[i] args[i] ∧ vs[i].plain = true) (hheap : HR w G h0) (hlt : ∀ b, outOwn G.ω b → b < w.heap.size) (hfr : ∀ b, w.heap.size ≤ b → G.Fr b = 0) :
    Calls P f args w (fun e w' => ∃ r, R r ∧ CallPost w G.Fr (outOwn G.ω) r e w') := by
  split at hr
  · rename_i t ht
    exact hxo _ _ t ht _ hr w G args hsz hargs hheap hlt hfr
  · exact body_sound (af := ⟨af.n, af.code, af.res, fun _ _ => none⟩) hcl hlp hm hf hpf hlen hr hsz hargs hheap hlt hfr

theorem runs_enter {f : FuncId} {fn : Func} {c : Code} (hf : P.funcs[f]? = some fn) (hname : (fn.name == "runtime.NumGoroutine") = false) (hb : fn.body = some c) (args : Array Value) (w : World) :
    (callFunc f args).run P w = .ok (.enter f args) w := by
  have h1 : fn.name ≠ "runtime.NumGoroutine" := by simpa using hname
  simp [callFunc, hf, h1, hb]

def LoopRounds (P : Program) (sg : FuncId → Nat → Nat) (fns : FuncId → Option AFunc) (m : Nat) : Prop :=
  ∀ {w0 : World} {F0 : FT} {A : Nat → Prop} {n : Nat} {hs : Nat → Nat} {c : Code} {c' : ACode}, pCode P sg hs n c .skip = some c' → ∀ {st : St} {R : Ex × St → Prop}, (loopN fns m c' st).All R → ∀ {a : Act} {w : World} {G : Gh}, SR w0 F0 A n st a w G →
    Code.rounds P c (CQ w0 F0 A n (fun st => .ret (.normal, st)) R) m a w

theorem calls_sound {fns : FuncId → Option AFunc} (hfn : FnsOk P sg fns) (hm : P.follows .mixedOrders = true) : ∀ m, CallOk P (callN fns m) ∧ LoopRounds P sg fns m := by
  intro m
  induction m with
  | zero => exact ⟨fun f vs h R hh => hh.elim, fun _ _ _ h => h.elim⟩
  | succ m ih =>
    obtain ⟨ihc, ihl⟩ := ih
    have ihl' : LoopOk P sg (loopN fns m) := fun hc _ _ hl _ _ _ h => wp_loop_rounds m (ihl hc hl h)
    refine ⟨fun f vs h0 R h w G args h1 h2 h3 h4 h5 => ?_, fun hc st R hl a w G h => ?_⟩
    · simp only [callN, T.All_on] at h
      obtain ⟨af, haf, h⟩ := h
      split at h
      · rename_i hle
        obtain ⟨fn, hf, hname, ⟨hs, hpf⟩, hxo⟩ := hfn f af haf
        have hb : ∃ c, fn.body = some c := by
          simp only [pFunc, Option.bind_eq_some_iff] at hpf
          obtain ⟨c, hc, _⟩ := hpf
          exact ⟨c, hc⟩
        obtain ⟨c, hc⟩ := hb
        exact .inr ⟨f, runs_enter hf hname hc args w, entered_sound ihc ihl' hm hf hpf hxo hle h h1 h2 h3 h4 h5⟩
      · exact h.elim
    · simp only [loopN, T.All_bind] at hl
      rw [rounds_succ]
      refine wp_mono (code_sound ihc ihl' hm hc hl h) ?_
      intro e a' w' hq
      cases e with
      | normal =>
        obtain ⟨st', G', k1, k2⟩ := hq
        exact ihl hc k2 k1
      | exit id => obtain ⟨st', G', k1, k2⟩ := hq; exact ⟨st', G', k1, k2⟩
      | ret => obtain ⟨st', G', k1, k2⟩ := hq; exact ⟨st', G', k1, k2⟩
      | _ => exact hq.elim

end Go.Proofs.YtjlioidknhdceaaDoor.Abs
