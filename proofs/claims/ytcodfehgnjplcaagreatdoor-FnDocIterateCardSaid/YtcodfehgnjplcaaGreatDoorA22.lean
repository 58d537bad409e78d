/- A21, A22 -/
import Derived.Test.YtcodfehgnjplcaaGreatDoorA20
import Derived.LoopN
/- Code, functions, calls. -/
namespace Go.Proofs.YtcodfehgnjplcaaGreatDoor.Abs
set_option linter.all false
set_option linter.unusedVariables false

variable {P : Program} {sg : FuncId → Nat → Nat} {hs : Nat → Nat} {w w' : World} {G G' : Gh} {a : Act} {o : Oper} {Q : Exit → Act → World → Prop}
variable {w0 : World} {F0 : FT} {A : Nat → Prop} {n : Nat} {st : St} {β : Type}
variable {cl : FuncId → List AV → H → T (AV × H)} {lp : ACode → St → T (Ex × St)}

def CQ (w0 : World) (F0 : FT) (A : Nat → Prop) (n : Nat) (K : St → T (Ex × St)) (R : Ex × St → Prop) : Exit → Act → World → Prop
  | .normal, a, w => ∃ st G, SR w0 F0 A n st a w G ∧ (K st).All R
  | .exit id, a, w => ∃ st G, SR w0 F0 A n st a w G ∧ R (.exit id, st)
  | .ret, a, w => ∃ st G, SR w0 F0 A n st a w G ∧ R (.ret, st)
  | _, _, _ => False

theorem CQ_goOn {K : St → T (Ex × St)} {R : Ex × St → Prop} {e : Exit} (h : CQ w0 F0 A n (fun st => .ret (.normal, st)) (fun r1 => (goOn r1 K).All R) e a w) : CQ w0 F0 A n K R e a w := by
  cases e with
  | normal => obtain ⟨st, G, h1, h2⟩ := h; exact ⟨st, G, h1, h2⟩
  | exit id => obtain ⟨st, G, h1, h2⟩ := h; exact ⟨st, G, h1, h2⟩
  | ret => obtain ⟨st, G, h1, h2⟩ := h; exact ⟨st, G, h1, h2⟩
  | _ => exact h.elim

theorem goOn_skip (r : Ex × St) : goOn r (fun st => .ret (.normal, st)) = .ret r := by
  obtain ⟨e, st⟩ := r
  cases e <;> rfl
theorem bind_ret {α : Type} : ∀ x : T α, x.bind .ret = x
  | .ret _ => rfl
  | .fail => rfl
  | .pick n k => by simp only [T.bind]; congr 1; funext d; exact bind_ret (k d)

theorem andThen_exec (x k : ACode) (st : St) : xexec cl lp (andThen x k) st = (xexec cl lp x st).bind fun r => goOn r fun st => xexec cl lp k st := by
  unfold andThen
  split
  · have : (fun r : Ex × St => goOn r fun st => xexec cl lp ACode.skip st) = fun r => .ret r := by funext r; exact goOn_skip r
    rw [this]; exact (bind_ret _).symm
  · rfl

def LoopOk (P : Program) (sg : FuncId → Nat → Nat) (lp : ACode → St → T (Ex × St)) : Prop :=
  ∀ {w0 : World} {F0 : FT} {A : Nat → Prop} {n : Nat} {hs : Nat → Nat} {c : Code} {c' : ACode}, pCode P sg hs n c .skip = some c' → ∀ {st : St} {R : Ex × St → Prop}, (lp c' st).All R → ∀ {a : Act} {w : World} {G : Gh}, SR w0 F0 A n st a w G →
    (Code.loop c).wp P (CQ w0 F0 A n (fun st => .ret (.normal, st)) R) a w

theorem code_sound (hcl : CallOk P cl) (hlp : LoopOk P sg lp) (hm : P.follows .mixedOrders = true) : ∀ {c : Code} {k x : ACode}, pCode P sg hs n c k = some x → ∀ {st : St} {R : Ex × St → Prop}, (xexec cl lp x st).All R →
    ∀ {a : Act} {w : World} {G : Gh}, SR w0 F0 A n st a w G → c.wp P (CQ w0 F0 A n (xexec cl lp k) R) a w := by
  intro c
  induction c with
  | skip =>
    intro k x hx st R hr a w G h
    simp only [pCode, Option.some.injEq] at hx; subst hx
    exact wp_skip ⟨st, G, h, hr⟩
  | region id ops draw =>
    intro k x hx st R hr a w G h
    simp only [pCode] at hx
    split at hx
    rotate_left
    · injection hx with hx; subst hx
      exact hr.elim
    rename_i l hl
    simp only [Option.map_eq_some_iff] at hx
    obtain ⟨al, hal, rfl⟩ := hx
    simp only [xexec] at hr
    cases draw with
    | true =>
      simp only [if_true] at hl
      exact region_draw_sound hcl hm (fun _ _ _ h => h) hl hal hr h (fun st' a' w' G' h1 h2 => ⟨st', G', h2, h1⟩)
    | false =>
      simp only [Bool.false_eq_true, if_false, Option.some.injEq] at hl; subst hl
      exact wp_region_list (ops_sound hcl hal hr h (fun st' a' w' G' h1 h2 => ⟨st', G', h2, h1⟩))
  | seq c d ihc ihd =>
    intro k x hx st R hr a w G h
    simp only [pCode, Option.bind_eq_some_iff] at hx
    obtain ⟨y, hy, hx⟩ := hx
    refine wp_seq (wp_mono (ihc hx hr h) ?_)
    intro e a' w' hq
    cases e with
    | normal => obtain ⟨st', G', h1, h2⟩ := hq; exact ihd hy h2 h1
    | exit id => exact hq
    | ret => exact hq
    | _ => exact hq.elim
  | cond c x y ihx ihy =>
    intro k z hz st R hr a w G h
    simp only [pCode, Option.bind_eq_some_iff, Option.map_eq_some_iff] at hz
    obtain ⟨ac, hac, x', hx', y', hy', rfl⟩ := hz
    rw [andThen_exec, T.All_bind] at hr
    simp only [xexec] at hr
    obtain ⟨p, hp⟩ := h.peekX hac
    unfold onBool at hr
    split at hr
    · rename_i hc; rw [hc] at hp
      exact wp_cond_true (TR_bool hp) (wp_mono (ihx hx' hr h) fun e a w hq => CQ_goOn hq)
    · rename_i hc; rw [hc] at hp
      exact wp_cond_false (TR_bool hp) (wp_mono (ihy hy' hr h) fun e a w hq => CQ_goOn hq)
    · exact hr.elim
  | block id c ih =>
    intro k z hz st R hr a w G h
    simp only [pCode, Option.map_eq_some_iff] at hz
    obtain ⟨c', hc', rfl⟩ := hz
    rw [andThen_exec, T.All_bind] at hr
    simp only [xexec, T.All_bind] at hr
    refine wp_block (wp_mono (ih hc' hr h) ?_)
    intro e a' w' hq
    cases e with
    | normal =>
      obtain ⟨st', G', h1, h2⟩ := hq
      exact ⟨st', G', h1, h2⟩
    | exit i =>
      obtain ⟨st0, G', h1, h2⟩ := hq
      simp only [Exit.inBlock]
      simp only [blockEnd, T.All_ret] at h2
      by_cases hi : i = id
      · rw [if_pos hi]; rw [if_pos hi] at h2; exact ⟨st0, G', h1, h2⟩
      · rw [if_neg hi]; rw [if_neg hi] at h2; exact ⟨st0, G', h1, h2⟩
    | ret =>
      obtain ⟨st0, G', h1, h2⟩ := hq
      exact ⟨st0, G', h1, h2⟩
    | _ => exact hq.elim
  | loop c ih =>
    intro k z hz st R hr a w G h
    simp only [pCode, Option.map_eq_some_iff] at hz
    obtain ⟨c', hc', rfl⟩ := hz
    rw [andThen_exec, T.All_bind] at hr
    simp only [xexec] at hr
    exact wp_mono (hlp hc' hr h) fun e a w hq => CQ_goOn hq
  | exit id =>
    intro k x hx st R hr a w G h
    simp only [pCode, Option.some.injEq] at hx; subst hx
    exact wp_exit ⟨st, G, h, hr⟩
  | ret =>
    intro k x hx st R hr a w G h
    simp only [pCode, Option.some.injEq] at hx; subst hx
    exact wp_ret ⟨st, G, h, hr⟩
  | _ => intro k x hx; simp [pCode] at hx <;> (subst hx; intro st R hr; exact hr.elim)

/-! ### Results -/
theorem TR_addr {p : Nat → Pos} {pv v : AV} {m : Mode} {agg : Bool} {k : Nat} {b b' : St} {x : Value} (h : TR w G p pv x) (hr : ldV m agg k pv b = some (v, b')) : ∃ ad, x = .pointer (some ad) := by
  unfold ldV at hr
  split at hr
  · obtain ⟨b, _, e⟩ := TR_ptr h; exact ⟨_, e⟩
  · obtain ⟨ad, e, _⟩ := TR_eptr h; exact ⟨_, e⟩
  · obtain ⟨ad, e, _⟩ := TR_eptr h; exact ⟨_, e⟩
  · exact ⟨_, TR_gl h⟩
  · cases hr

def resOne (tmps : Array Value) : ResultVar → Sem Value
  | .tmp t => pure (tmps.getD t undef)
  | .cell a t => do loadVar t (← asAddr (tmps.getD a undef))

theorem results_sound : ∀ {l : List ResultVar} {rs : List ARes} {st : St} {vs : List AV × St} {G : Gh} (j0 : Nat), pRes P l = some rs → xresults rs st = some vs → SR w0 F0 A n st a w G →
    ∃ us G', (l.mapM (resOne a.tmps)).run P w = .ok us w ∧ SR w0 F0 A n st a w G ∧ us.length = vs.1.length ∧ SR w0 F0 A n vs.2 a w G' ∧ (∀ i x v, TC w G (.arg i) x v → TC w G' (.arg i) x v) ∧ ∀ j (h : j < vs.1.length) (h' : j < us.length), TC w G' (.arg (j0 + j)) vs.1[j] us[j] ∧ vs.1[j].plain = true
  | [], rs, st, vs, G, j0, hp, hr, h => by
    simp only [pRes, Option.some.injEq] at hp; subst hp
    simp only [xresults, Option.some.injEq] at hr; subst hr
    exact ⟨[], G, by simp, h, rfl, h, fun _ _ _ h => h, fun j hj => absurd hj (by simp)⟩
  | .tmp t :: l, rs, st, vs, G, j0, hp, hr, h => by
    simp only [pRes, Option.map_eq_some_iff] at hp
    obtain ⟨rs', hrs', rfl⟩ := hp
    simp only [xresults, xres, obind_some, obind_eq_some, pln, Option.some.injEq] at hr
    obtain ⟨u, hu, vs', hvs', rfl⟩ := hr
    split at hu
    · rename_i hpl
      obtain ⟨G1, h1, h2, h3, _⟩ := h.takeO (x := .tmp t) (ax := .u t) rfl (fun _ => .arg j0) (by simp)
      obtain ⟨us, G', e1, e2, e3, e4, e5, e6⟩ := results_sound (j0 + 1) hrs' hvs' h1
      refine ⟨a.tmps.getD t undef :: us, G', ?_, h, by simp [e3], e4, fun i x v hv => e5 i x v (h3 _ _ _ (fun _ _ e => by cases e) (fun _ e => by cases e) hv), fun j hj hj' => ?_⟩
      · simp [List.mapM_cons, resOne, e1]
      · cases j with
        | zero => exact ⟨e5 _ _ _ (TC_of_TR h2 hpl), hpl⟩
        | succ j => have := e6 j (by simpa using hj) (by simpa using hj'); rw [Nat.add_assoc, Nat.add_comm 1 j] at this; exact this
    · cases hu
  | .cell t ty :: l, rs, st, vs, G, j0, hp, hr, h => by
    simp only [pRes, Option.bind_eq_some_iff, Option.map_eq_some_iff] at hp
    obtain ⟨ag, hag, k, hk, rs', hrs', rfl⟩ := hp
    simp only [xresults, xres, obind_eq_some, pln, Option.some.injEq] at hr
    obtain ⟨⟨v, b'⟩, hld, u, hu, vs', hvs', rfl⟩ := hr
    simp only at hu hvs'
    split at hu
    · rename_i hpl
      let o : Oper := { dst := none, op := .load ty (.tmp t), type := 0, pos := default, after := #[], guard := none }
      obtain ⟨ad, had⟩ := TR_addr (h.slots t) hld
      obtain ⟨G1, vv, k1, k2, k3, k4, k5, k6, k7, _⟩ := load_sound (P := P) (o := o) h rfl hag hk (h.slots t) hld (fun _ => .arg j0) (by simp) (by simp)
      obtain ⟨us, G', e1, e2, e3, e4, e5, e6⟩ := results_sound (j0 + 1) hrs' hvs' k1
      have hrun : (resOne a.tmps (.cell t ty)).run P w = .ok vv w := by
        have := k3 w (Pres.refl _ _ _)
        simp only [Runs, execOp, o, eval_tmp, had, Instr.loadAt, Instr.sureAddr] at this
        simp only [resOne, had, asAddr]
        simp at this ⊢
        cases hl : (loadVar ty ad).run P w with
        | ok v' w' => rw [hl] at this; simp at this; obtain ⟨rfl, rfl⟩ := this; rfl
        | halt x w' => rw [hl] at this; simp at this
      refine ⟨vv :: us, G', ?_, h, by simp [e3], e4, fun i x v hv => e5 i x v (k7 _ _ _ (fun _ _ e => by cases e) hv), fun j hj hj' => ?_⟩
      · simp [List.mapM_cons, hrun, e1]
      · cases j with
        | zero => exact ⟨e5 _ _ _ (TC_of_TR k2 hpl), hpl⟩
        | succ j => have := e6 j (by simpa using hj) (by simpa using hj'); rw [Nat.add_assoc, Nat.add_comm 1 j] at this; exact this
    · cases hu

end Go.Proofs.YtcodfehgnjplcaaGreatDoor.Abs

/- Functions and calls, by the depth allowed; the interpreter at its limit. -/
namespace Go.Proofs.YtcodfehgnjplcaaGreatDoor.Abs
set_option linter.all false
set_option linter.unusedVariables false

variable {P : Program} {sg : FuncId → Nat → Nat} {w w' : World} {G G' : Gh} {a : Act} {o : Oper} {Q : Exit → Act → World → Prop}
variable {w0 : World} {F0 : FT} {A : Nat → Prop} {n : Nat} {st : St} {β : Type}
variable {cl : FuncId → List AV → H → T (AV × H)} {lp : ACode → St → T (Ex × St)}

def XOk (P : Program) (f : FuncId) (x : List AV → H → Option AV) : Prop :=
  ∀ vs h0 v, x vs h0 = some v → (∀ u ∈ vs, u.isOwn = false) ∧ ∀ (w : World) (G : Gh) (args : Array Value), HR w G h0 → args.size = vs.length → (∀ i (h : i < vs.length) (h' : i < args.size), CR w G.Fr vs[i] args[i]) →
    Calls P f args w fun e w' => w' = w ∧ ∃ u, e = .returned u ∧ CR w G.Fr v u
theorem xok_none (P : Program) (f : FuncId) : XOk P f fun _ _ => none := fun _ _ _ h => by cases h

def FnsOk (P : Program) (sg : FuncId → Nat → Nat) (fns : FuncId → Option AFunc) : Prop :=
  ∀ f af, fns f = some af → ∃ fn, P.funcs[f]? = some fn ∧ (fn.name == "runtime.NumGoroutine") = false ∧ (∃ hs, pFunc P sg hs fn = some ⟨af.n, af.code, af.res, fun _ _ => none⟩) ∧ XOk P f af.x

theorem run_results (fn : Func) (tmps : Array Value) {us : List Value} (h : (fn.results.toList.mapM (resOne tmps)).run P w = .ok us w) :
    (results fn tmps).run P w = .ok (if h : us.length = 1 then us[0] else .tuple us.toArray) w := by
  have h1 : (fn.results.mapM (resOne tmps)).run P w = .ok us.toArray w := by
    rw [Array.mapM_eq_mapM_toList]
    simp [h]
  have h2 : results fn tmps = (do
    let vs ← fn.results.mapM (resOne tmps)
    pure (if h : vs.size = 1 then vs[0] else .tuple vs)) := by
    unfold results
    have : (resOne tmps) = (fun | .tmp t => pure (tmps.getD t undef) | .cell a t => do loadVar t (← asAddr (tmps.getD a undef))) := by
      funext r; cases r <;> rfl
    rw [this]
    rfl
  rw [h2]
  simp [h1]

theorem body_sound (hcl : CallOk P cl) (hlp : LoopOk P sg lp) (hm : P.follows .mixedOrders = true) {hs : Nat → Nat} {f : FuncId} {fn : Func} {af : AFunc} (hf : P.funcs[f]? = some fn) (hpf : pFunc P sg hs fn = some af)
    {vs : List AV} {h0 : H} {R : AV × H → Prop} (hlen : vs.length ≤ af.n) (hr : (xbody cl lp af vs h0).All R) {w : World} {G : Gh} {args : Array Value} (hsz : args.size = vs.length)
    (hargs : ∀ i (h : i < vs.length) (h' : i < args.size), TC w G (.arg i) vs[i] args[i] ∧ vs[i].plain = true) (hheap : HR w G h0) (hlt : ∀ b, outOwn G.ω b → b < w.heap.size) (hfr : ∀ b, w.heap.size ≤ b → G.Fr b = 0) :
    Calls P f args w (fun e w' => ∃ r, R r ∧ CallPost w G.Fr (outOwn G.ω) r e w') := by
  simp only [pFunc, Option.bind_eq_some_iff, Option.map_eq_some_iff] at hpf
  obtain ⟨c, hbody, x, hx, rs, hrs, rfl⟩ := hpf
  simp only [xbody, T.All_bind, T.All_ofO] at hr
  simp only at hlen
  let ω0 : Nat → Pos := fun b => match G.ω b with | .arg i => .slot i 0 | .box (.obj i) => .box (.obj i) | .cell (.obj i) c => .cell (.obj i) c | _ => .free
  have hω0 : ∀ b i, G.ω b = .arg i → ω0 b = .slot i 0 := fun b i h => by simp only [ω0, h]
  let st0 : St := ⟨fun j => (vs[j]?).getD .undef, fun _ => none, h0⟩
  let a0 : Act := { tmps := args ++ Array.replicate (fn.ntmps - args.size) undef, defers := [] }
  have hS : SR w G.Fr (outOwn G.ω) fn.ntmps st0 a0 w ⟨G.Fr, fun _ => none, ω0⟩ := by
    refine ⟨by simp only [a0, Array.size_append, Array.size_replicate]; omega, rfl, fun t => ?_, fun s cs hs => (by cases hs), ?_, Kp.refl _ _, Ext.refl _ _, fun b hb => ?_, fun _ _ _ => rfl, hfr, fun _ _ => rfl⟩
    · by_cases ht : t < vs.length
      · have e1 : (vs[t]?).getD .undef = vs[t] := by rw [List.getElem?_eq_getElem ht]; rfl
        have e2 : a0.tmps.getD t undef = args[t] := by
          simp [a0, Array.getD_eq_getD_getElem?, Array.getElem?_append, hsz, ht]
        obtain ⟨h1, h2⟩ := hargs t ht (by omega)
        show TR w _ (.slot t) ((vs[t]?).getD .undef) _
        rw [e1, e2]
        exact TR_of_TC (h1.pos (β2 := fun _ => none) (fun b hb => hω0 b t hb)) h2
      · have e1 : (vs[t]?).getD .undef = .undef := by rw [List.getElem?_eq_none (by omega)]; rfl
        show TR w _ (.slot t) ((vs[t]?).getD .undef) _
        rw [e1]; trivial
    · refine ⟨fun i ob hi => BoxR.keeps (G := G) (G' := ⟨G.Fr, fun _ => none, ω0⟩) (Ext.refl _ _) (fun t ht => ht) (fun p hp b hb _ => ⟨rfl, rfl, ?_⟩) (hheap.box i ob hi), hheap.ids, hheap.glob⟩
      have hb' : G.ω b = p := hb
      rcases hp with rfl | ⟨c, rfl⟩ <;> simp only [ω0, hb']
    · have key : outOwn G.ω b → b < w.heap.size ∧ (outOwn G.ω b ∨ w.heap.size ≤ b) := fun ho => ⟨hlt b ho, .inl ho⟩
      simp only [ω0] at hb
      split at hb
      · rename_i i hi; exact key (by unfold outOwn; rw [hi]; rfl)
      · rename_i i hi; exact key (by unfold outOwn; rw [hi]; rfl)
      · rename_i i hi; exact key (by unfold outOwn; rw [hi]; rfl)
      · exact absurd rfl hb
  refine calls_of_wp hf hbody (wp_mono (code_sound hcl hlp hm hx hr hS) ?_)
  have fin : ∀ {st : St} {a : Act} {w' : World} {G' : Gh} {us : List AV × St}, SR w G.Fr (outOwn G.ω) fn.ntmps st a w' G' → xresults rs st = some us → R (oneOrTup us.1, us.2.h) →
      a.defers = [] ∧ ∃ v, (results fn a.tmps).run P w' = .ok v w' ∧ ∃ r, R r ∧ CallPost w G.Fr (outOwn G.ω) r (.returned v) w' := by
    intro st a w' G' us hS' hus hr'
    obtain ⟨vs', G2, e1, _, e3, e4, _, e6⟩ := results_sound (if us.1.length = 1 then 0 else 1) hrs hus hS'
    refine ⟨hS'.defers, _, run_results fn a.tmps e1, _, hr', _, G2.Fr, G2.ω, rfl, e4.kept, e4.ext, e4.same, e4.fresh, ?_, ?_, fun b hb => e4.mine b (fun e => by unfold outOwn at hb; rw [e] at hb; cases hb)⟩
    · show TR w' _ .arg (oneOrTup us.1) _
      by_cases h1 : us.1.length = 1
      · obtain ⟨us1, us2⟩ := us
        simp only at h1 e3 e6 ⊢
        obtain ⟨u, rfl⟩ := List.length_eq_one_iff.1 h1
        obtain ⟨v, rfl⟩ := List.length_eq_one_iff.1 (e3.trans h1)
        have := e6 0 (by simp) (by simp)
        simp only [List.length_cons, List.length_nil, if_true, Nat.zero_add, List.getElem_cons_zero] at this
        simp only [oneOrTup, List.length_cons, List.length_nil, dite_true, List.getElem_cons_zero, Nat.zero_add]
        exact TR_of_TC (TC.pos (β2 := fun _ => none) (ω1 := G2.ω) (β1 := G2.β) (p := .arg 0) (fun _ h => h) this.1) this.2
      · rw [if_neg h1] at e6
        have hot : oneOrTup us.1 = .tup us.1 := by
          unfold oneOrTup; split
          · rename_i hh; rw [hh] at h1; simp at h1
          · rfl
        rw [hot, dif_neg (by rw [e3]; exact h1)]
        refine ⟨vs'.toArray, rfl, by simpa using e3, fun j hj hj' => ?_⟩
        have := e6 j hj (by simpa using hj')
        rw [Nat.add_comm 1 j] at this
        simpa using TC.pos (β2 := fun _ => none) (ω1 := G2.ω) (β1 := G2.β) (p := .arg (j + 1)) (fun _ h => h) this.1
    · exact ⟨fun i ob hi => BoxR.keeps (G := G2) (G' := ⟨G2.Fr, fun _ => none, G2.ω⟩) (Ext.refl _ _) (fun t ht => ht) (fun p hp b hb _ => ⟨rfl, rfl, hb⟩) (e4.heap.box i ob hi), e4.heap.ids, e4.heap.glob⟩
  intro e a w' hq
  cases e with
  | normal =>
    obtain ⟨st', G', h1, h2⟩ := hq
    simp only [xexec, T.All_ret, xend, obind_eq_some] at h2
    obtain ⟨r, ⟨us, hus, hr1⟩, hR⟩ := h2
    injection hr1 with hr1; subst hr1
    exact fin h1 hus hR
  | ret =>
    obtain ⟨st', G', h1, h2⟩ := hq
    simp only [xend, obind_eq_some] at h2
    obtain ⟨r, ⟨us, hus, hr1⟩, hR⟩ := h2
    injection hr1 with hr1; subst hr1
    exact fin h1 hus hR
  | exit id =>
    obtain ⟨st', G', h1, h2⟩ := hq
    obtain ⟨r, hr1, _⟩ := h2
    cases hr1
  | _ => exact hq.elim

theorem xcall_sound {f : FuncId} {x : List AV → H → Option AV} (hxo : XOk P f x) {vs : List AV} {v : AV} {h0 : H} (hv : x vs h0 = some v) {R : AV × H → Prop} (hr : (T.ret (v, h0)).All R) {w : World} {G : Gh} {args : Array Value} (hsz : args.size = vs.length)
    (hargs : ∀ i (h : i < vs.length) (h' : i < args.size), TC w G (.arg i) vs[i] args[i] ∧ vs[i].plain = true) (hheap : HR w G h0) (hlt : ∀ b, outOwn G.ω b → b < w.heap.size) (hfr : ∀ b, w.heap.size ≤ b → G.Fr b = 0) :
    Calls P f args w (fun e w' => ∃ r, R r ∧ CallPost w G.Fr (outOwn G.ω) r e w') := by
  obtain ⟨ho, hc⟩ := hxo vs h0 v hv
  refine (hc w G args hheap hsz fun i h h' => CR_of_TC (hargs i h h').1 (ho _ (List.getElem_mem h))).mono ?_
  rintro e w' ⟨rfl, u, rfl, hu⟩
  let ω1 : Nat → Pos := fun b => match G.ω b with | .box (.obj i) => .box (.obj i) | .cell (.obj i) c => .cell (.obj i) c | _ => .free
  refine ⟨(v, h0), hr, u, G.Fr, ω1, rfl, Kp.refl _ _, Ext.refl _ _, fun _ _ _ => rfl, hfr, TR_of_CR hu, ⟨fun i ob hi => ?_, hheap.ids, hheap.glob⟩, fun b hb => ?_⟩
  · refine BoxR.keeps (G := G) (G' := ⟨G.Fr, fun _ => none, ω1⟩) (Ext.refl _ _) (fun t ht => ht) (fun p hp b hb _ => ⟨rfl, rfl, ?_⟩) (hheap.box i ob hi)
    have hb' : G.ω b = p := hb
    rcases hp with rfl | ⟨c, rfl⟩ <;> simp only [ω1, hb']
  · have key : outOwn G.ω b → b < w'.heap.size ∧ (outOwn G.ω b ∨ w'.heap.size ≤ b) := fun ho => ⟨hlt b ho, .inl ho⟩
    unfold outOwn at hb
    simp only [ω1] at hb
    split at hb
    · rename_i i hi; exact key (by unfold outOwn; rw [hi]; rfl)
    · rename_i i hi; exact key (by unfold outOwn; rw [hi]; rfl)
    · cases hb

theorem entered_sound (hcl : CallOk P cl) (hlp : LoopOk P sg lp) (hm : P.follows .mixedOrders = true) {hs : Nat → Nat} {f : FuncId} {fn : Func} {af : AFunc} (hf : P.funcs[f]? = some fn) (hpf : pFunc P sg hs fn = some ⟨af.n, af.code, af.res, fun _ _ => none⟩)
    (hxo : XOk P f af.x) {vs : List AV} {h0 : H} {R : AV × H → Prop} (hlen : vs.length ≤ af.n) (hr : (match af.x vs h0 with | some v => (T.ret (v, h0)) | none => xbody cl lp af vs h0).All R) {w : World} {G : Gh} {args : Array Value} (hsz : args.size = vs.length)
    (hargs : ∀ i (h : i < vs.length) (h' : i < args.size), TC w G (.arg i) vs[i] args[i] ∧ vs[i].plain = true) (hheap : HR w G h0) (hlt : ∀ b, outOwn G.ω b → b < w.heap.size) (hfr : ∀ b, w.heap.size ≤ b → G.Fr b = 0) :
    Calls P f args w (fun e w' => ∃ r, R r ∧ CallPost w G.Fr (outOwn G.ω) r e w') := by
  split at hr
  · rename_i v hv
    exact xcall_sound hxo hv hr hsz hargs hheap hlt hfr
  · exact body_sound (af := ⟨af.n, af.code, af.res, fun _ _ => none⟩) hcl hlp hm hf hpf hlen hr hsz hargs hheap hlt hfr

theorem runs_enter {f : FuncId} {fn : Func} {c : Code} (hf : P.funcs[f]? = some fn) (hname : (fn.name == "runtime.NumGoroutine") = false) (hb : fn.body = some c) (args : Array Value) (w : World) :
    (callFunc f args).run P w = .ok (.enter f args) w := by
  have h1 : fn.name ≠ "runtime.NumGoroutine" := by simpa using hname
  simp [callFunc, hf, h1, hb]

def LoopRounds (P : Program) (sg : FuncId → Nat → Nat) (fns : FuncId → Option AFunc) (m : Nat) : Prop :=
  ∀ {w0 : World} {F0 : FT} {A : Nat → Prop} {n : Nat} {hs : Nat → Nat} {c : Code} {c' : ACode}, pCode P sg hs n c .skip = some c' → ∀ {st : St} {R : Ex × St → Prop}, (loopN fns m c' st).All R → ∀ {a : Act} {w : World} {G : Gh}, SR w0 F0 A n st a w G →
    Code.rounds P c (CQ w0 F0 A n (fun st => .ret (.normal, st)) R) m a w

theorem calls_sound {fns : FuncId → Option AFunc} (hfn : FnsOk P sg fns) (hm : P.follows .mixedOrders = true) : ∀ m, CallOk P (callN fns m) ∧ LoopRounds P sg fns m := by
  intro m
  induction m with
  | zero => exact ⟨fun f vs h R hh => hh.elim, fun _ _ _ h => h.elim⟩
  | succ m ih =>
    obtain ⟨ihc, ihl⟩ := ih
    have ihl' : LoopOk P sg (loopN fns m) := fun hc _ _ hl _ _ _ h => wp_loop_rounds m (ihl hc hl h)
    refine ⟨fun f vs h0 R h w G args h1 h2 h3 h4 h5 => ?_, fun hc st R hl a w G h => ?_⟩
    · simp only [callN, T.All_on] at h
      obtain ⟨af, haf, h⟩ := h
      split at h
      · rename_i hle
        obtain ⟨fn, hf, hname, ⟨hs, hpf⟩, hxo⟩ := hfn f af haf
        have hb : ∃ c, fn.body = some c := by
          simp only [pFunc, Option.bind_eq_some_iff] at hpf
          obtain ⟨c, hc, _⟩ := hpf
          exact ⟨c, hc⟩
        obtain ⟨c, hc⟩ := hb
        exact .inr ⟨f, runs_enter hf hname hc args w, entered_sound ihc ihl' hm hf hpf hxo hle h h1 h2 h3 h4 h5⟩
      · exact h.elim
    · simp only [loopN, T.All_bind] at hl
      rw [rounds_succ]
      refine wp_mono (code_sound ihc ihl' hm hc hl h) ?_
      intro e a' w' hq
      cases e with
      | normal =>
        obtain ⟨st', G', k1, k2⟩ := hq
        exact ihl hc k2 k1
      | exit id => obtain ⟨st', G', k1, k2⟩ := hq; exact ⟨st', G', k1, k2⟩
      | ret => obtain ⟨st', G', k1, k2⟩ := hq; exact ⟨st', G', k1, k2⟩
      | _ => exact hq.elim

end Go.Proofs.YtcodfehgnjplcaaGreatDoor.Abs
