/- A21, A22, A23, A24, A25, A26, A27 -/
import Derived.Test.YticoldgiebmmgaaGreatDoorA20
import Derived.LoopN
import Derived.ChangeArms
import Derived.DataReads
import Derived.SizedLaws
import Derived.Below
import Derived.Carry
import Derived.ChangeShapes
/- Code, functions, calls. -/
namespace Go.Proofs.YticoldgiebmmgaaGreatDoor.Abs
set_option linter.all false
set_option linter.unusedVariables false

variable {P : Program} {sg : FuncId → Nat → Nat} {hs : Nat → Nat} {w w' : World} {G G' : Gh} {a : Act} {o : Oper} {Q : Exit → Act → World → Prop}
variable {w0 : World} {F0 : FT} {A : Nat → Prop} {n : Nat} {st : St} {β : Type}
variable {cl : FuncId → List AV → H → T (AV × H)} {lp : ACode → St → T (Ex × St)}

def CQ (w0 : World) (F0 : FT) (A : Nat → Prop) (n : Nat) (K : St → T (Ex × St)) (R : Ex × St → Prop) : Exit → Act → World → Prop
  | .normal, a, w => ∃ st G, SR w0 F0 A n st a w G ∧ (K st).All R
  | .exit id, a, w => ∃ st G, SR w0 F0 A n st a w G ∧ R (.exit id, st)
  | .ret, a, w => ∃ st G, SR w0 F0 A n st a w G ∧ R (.ret, st)
  | _, _, _ => False

theorem CQ_goOn {K : St → T (Ex × St)} {R : Ex × St → Prop} {e : Exit} (h : CQ w0 F0 A n (fun st => .ret (.normal, st)) (fun r1 => (goOn r1 K).All R) e a w) : CQ w0 F0 A n K R e a w := by
  cases e with
  | normal => obtain ⟨st, G, h1, h2⟩ := h; exact ⟨st, G, h1, h2⟩
  | exit id => obtain ⟨st, G, h1, h2⟩ := h; exact ⟨st, G, h1, h2⟩
  | ret => obtain ⟨st, G, h1, h2⟩ := h; exact ⟨st, G, h1, h2⟩
  | _ => exact h.elim

theorem goOn_skip (r : Ex × St) : goOn r (fun st => .ret (.normal, st)) = .ret r := by
  obtain ⟨e, st⟩ := r
  cases e <;> rfl
theorem bind_ret {α : Type} : ∀ x : T α, x.bind .ret = x
  | .ret _ => rfl
  | .fail => rfl
  | .pick n k => by simp only [T.bind]; congr 1; funext d; exact bind_ret (k d)

theorem andThen_exec (x k : ACode) (st : St) : xexec cl lp (andThen x k) st = (xexec cl lp x st).bind fun r => goOn r fun st => xexec cl lp k st := by
  unfold andThen
  split
  · have : (fun r : Ex × St => goOn r fun st => xexec cl lp ACode.skip st) = fun r => .ret r := by funext r; exact goOn_skip r
    rw [this]; exact (bind_ret _).symm
  · rfl

def LoopOk (P : Program) (sg : FuncId → Nat → Nat) (lp : ACode → St → T (Ex × St)) : Prop :=
  ∀ {w0 : World} {F0 : FT} {A : Nat → Prop} {n : Nat} {hs : Nat → Nat} {c : Code} {c' : ACode}, pCode P sg hs n c .skip = some c' → ∀ {st : St} {R : Ex × St → Prop}, (lp c' st).All R → ∀ {a : Act} {w : World} {G : Gh}, SR w0 F0 A n st a w G →
    (Code.loop c).wp P (CQ w0 F0 A n (fun st => .ret (.normal, st)) R) a w

theorem code_sound (hcl : CallOk P cl) (hlp : LoopOk P sg lp) (hm : P.follows .mixedOrders = true) : ∀ {c : Code} {k x : ACode}, pCode P sg hs n c k = some x → ∀ {st : St} {R : Ex × St → Prop}, (xexec cl lp x st).All R →
    ∀ {a : Act} {w : World} {G : Gh}, SR w0 F0 A n st a w G → c.wp P (CQ w0 F0 A n (xexec cl lp k) R) a w := by
  intro c
  induction c with
  | skip =>
    intro k x hx st R hr a w G h
    simp only [pCode, Option.some.injEq] at hx; subst hx
    exact wp_skip ⟨st, G, h, hr⟩
  | region id ops draw =>
    intro k x hx st R hr a w G h
    simp only [pCode] at hx
    split at hx
    rotate_left
    · injection hx with hx; subst hx
      exact hr.elim
    rename_i l hl
    simp only [Option.map_eq_some_iff] at hx
    obtain ⟨al, hal, rfl⟩ := hx
    simp only [xexec] at hr
    cases draw with
    | true =>
      simp only [if_true] at hl
      exact region_draw_sound hcl hm (fun _ _ _ h => h) hl hal hr h (fun st' a' w' G' h1 h2 => ⟨st', G', h2, h1⟩)
    | false =>
      simp only [Bool.false_eq_true, if_false, Option.some.injEq] at hl; subst hl
      exact wp_region_list (ops_sound hcl hal hr h (fun st' a' w' G' h1 h2 => ⟨st', G', h2, h1⟩))
  | seq c d ihc ihd =>
    intro k x hx st R hr a w G h
    simp only [pCode, Option.bind_eq_some_iff] at hx
    obtain ⟨y, hy, hx⟩ := hx
    refine wp_seq (wp_mono (ihc hx hr h) ?_)
    intro e a' w' hq
    cases e with
    | normal => obtain ⟨st', G', h1, h2⟩ := hq; exact ihd hy h2 h1
    | exit id => exact hq
    | ret => exact hq
    | _ => exact hq.elim
  | cond c x y ihx ihy =>
    intro k z hz st R hr a w G h
    simp only [pCode, Option.bind_eq_some_iff, Option.map_eq_some_iff] at hz
    obtain ⟨ac, hac, x', hx', y', hy', rfl⟩ := hz
    rw [andThen_exec, T.All_bind] at hr
    simp only [xexec] at hr
    obtain ⟨p, hp⟩ := h.peekX hac
    unfold onBool at hr
    split at hr
    · rename_i hc; rw [hc] at hp
      exact wp_cond_true (TR_bool hp) (wp_mono (ihx hx' hr h) fun e a w hq => CQ_goOn hq)
    · rename_i hc; rw [hc] at hp
      exact wp_cond_false (TR_bool hp) (wp_mono (ihy hy' hr h) fun e a w hq => CQ_goOn hq)
    · exact hr.elim
  | block id c ih =>
    intro k z hz st R hr a w G h
    simp only [pCode, Option.map_eq_some_iff] at hz
    obtain ⟨c', hc', rfl⟩ := hz
    rw [andThen_exec, T.All_bind] at hr
    simp only [xexec, T.All_bind] at hr
    refine wp_block (wp_mono (ih hc' hr h) ?_)
    intro e a' w' hq
    cases e with
    | normal =>
      obtain ⟨st', G', h1, h2⟩ := hq
      exact ⟨st', G', h1, h2⟩
    | exit i =>
      obtain ⟨st0, G', h1, h2⟩ := hq
      simp only [Exit.inBlock]
      simp only [blockEnd, T.All_ret] at h2
      by_cases hi : i = id
      · rw [if_pos hi]; rw [if_pos hi] at h2; exact ⟨st0, G', h1, h2⟩
      · rw [if_neg hi]; rw [if_neg hi] at h2; exact ⟨st0, G', h1, h2⟩
    | ret =>
      obtain ⟨st0, G', h1, h2⟩ := hq
      exact ⟨st0, G', h1, h2⟩
    | _ => exact hq.elim
  | loop c ih =>
    intro k z hz st R hr a w G h
    simp only [pCode, Option.map_eq_some_iff] at hz
    obtain ⟨c', hc', rfl⟩ := hz
    rw [andThen_exec, T.All_bind] at hr
    simp only [xexec] at hr
    exact wp_mono (hlp hc' hr h) fun e a w hq => CQ_goOn hq
  | exit id =>
    intro k x hx st R hr a w G h
    simp only [pCode, Option.some.injEq] at hx; subst hx
    exact wp_exit ⟨st, G, h, hr⟩
  | ret =>
    intro k x hx st R hr a w G h
    simp only [pCode, Option.some.injEq] at hx; subst hx
    exact wp_ret ⟨st, G, h, hr⟩
  | _ => intro k x hx; simp [pCode] at hx <;> (subst hx; intro st R hr; exact hr.elim)

/-! ### Results -/
theorem TR_addr {p : Nat → Pos} {pv v : AV} {m : Mode} {agg : Bool} {k : Nat} {b b' : St} {x : Value} (h : TR w G p pv x) (hr : ldV m agg k pv b = some (v, b')) : ∃ ad, x = .pointer (some ad) := by
  unfold ldV at hr
  split at hr
  · obtain ⟨b, _, e⟩ := TR_ptr h; exact ⟨_, e⟩
  · obtain ⟨ad, e, _⟩ := TR_eptr h; exact ⟨_, e⟩
  · obtain ⟨ad, e, _⟩ := TR_eptr h; exact ⟨_, e⟩
  · exact ⟨_, TR_gl h⟩
  · cases hr

def resOne (tmps : Array Value) : ResultVar → Sem Value
  | .tmp t => pure (tmps.getD t undef)
  | .cell a t => do loadVar t (← asAddr (tmps.getD a undef))

theorem results_sound : ∀ {l : List ResultVar} {rs : List ARes} {st : St} {vs : List AV × St} {G : Gh} (j0 : Nat), pRes P l = some rs → xresults rs st = some vs → SR w0 F0 A n st a w G →
    ∃ us G', (l.mapM (resOne a.tmps)).run P w = .ok us w ∧ SR w0 F0 A n st a w G ∧ us.length = vs.1.length ∧ SR w0 F0 A n vs.2 a w G' ∧ (∀ i x v, TC w G (.arg i) x v → TC w G' (.arg i) x v) ∧ ∀ j (h : j < vs.1.length) (h' : j < us.length), TC w G' (.arg (j0 + j)) vs.1[j] us[j] ∧ vs.1[j].plain = true
  | [], rs, st, vs, G, j0, hp, hr, h => by
    simp only [pRes, Option.some.injEq] at hp; subst hp
    simp only [xresults, Option.some.injEq] at hr; subst hr
    exact ⟨[], G, by simp, h, rfl, h, fun _ _ _ h => h, fun j hj => absurd hj (by simp)⟩
  | .tmp t :: l, rs, st, vs, G, j0, hp, hr, h => by
    simp only [pRes, Option.map_eq_some_iff] at hp
    obtain ⟨rs', hrs', rfl⟩ := hp
    simp only [xresults, xres, obind_some, obind_eq_some, pln, Option.some.injEq] at hr
    obtain ⟨u, hu, vs', hvs', rfl⟩ := hr
    split at hu
    · rename_i hpl
      obtain ⟨G1, h1, h2, h3, _⟩ := h.takeO (x := .tmp t) (ax := .u t) rfl (fun _ => .arg j0) (by simp)
      obtain ⟨us, G', e1, e2, e3, e4, e5, e6⟩ := results_sound (j0 + 1) hrs' hvs' h1
      refine ⟨a.tmps.getD t undef :: us, G', ?_, h, by simp [e3], e4, fun i x v hv => e5 i x v (h3 _ _ _ (fun _ _ e => by cases e) (fun _ e => by cases e) hv), fun j hj hj' => ?_⟩
      · simp [List.mapM_cons, resOne, e1]
      · cases j with
        | zero => exact ⟨e5 _ _ _ (TC_of_TR h2 hpl), hpl⟩
        | succ j => have := e6 j (by simpa using hj) (by simpa using hj'); rw [Nat.add_assoc, Nat.add_comm 1 j] at this; exact this
    · cases hu
  | .cell t ty :: l, rs, st, vs, G, j0, hp, hr, h => by
    simp only [pRes, Option.bind_eq_some_iff, Option.map_eq_some_iff] at hp
    obtain ⟨ag, hag, k, hk, rs', hrs', rfl⟩ := hp
    simp only [xresults, xres, obind_eq_some, pln, Option.some.injEq] at hr
    obtain ⟨⟨v, b'⟩, hld, u, hu, vs', hvs', rfl⟩ := hr
    simp only at hu hvs'
    split at hu
    · rename_i hpl
      let o : Oper := { dst := none, op := .load ty (.tmp t), type := 0, pos := default, after := #[], guard := none }
      obtain ⟨ad, had⟩ := TR_addr (h.slots t) hld
      obtain ⟨G1, vv, k1, k2, k3, k4, k5, k6, k7, _⟩ := load_sound (P := P) (o := o) h rfl hag hk (h.slots t) hld (fun _ => .arg j0) (by simp) (by simp)
      obtain ⟨us, G', e1, e2, e3, e4, e5, e6⟩ := results_sound (j0 + 1) hrs' hvs' k1
      have hrun : (resOne a.tmps (.cell t ty)).run P w = .ok vv w := by
        have := k3 w (Pres.refl _ _ _)
        simp only [Runs, execOp, o, eval_tmp, had, Instr.loadAt, Instr.sureAddr] at this
        simp only [resOne, had, asAddr]
        simp at this ⊢
        cases hl : (loadVar ty ad).run P w with
        | ok v' w' => rw [hl] at this; simp at this; obtain ⟨rfl, rfl⟩ := this; rfl
        | halt x w' => rw [hl] at this; simp at this
      refine ⟨vv :: us, G', ?_, h, by simp [e3], e4, fun i x v hv => e5 i x v (k7 _ _ _ (fun _ _ e => by cases e) hv), fun j hj hj' => ?_⟩
      · simp [List.mapM_cons, hrun, e1]
      · cases j with
        | zero => exact ⟨e5 _ _ _ (TC_of_TR k2 hpl), hpl⟩
        | succ j => have := e6 j (by simpa using hj) (by simpa using hj'); rw [Nat.add_assoc, Nat.add_comm 1 j] at this; exact this
    · cases hu

end Go.Proofs.YticoldgiebmmgaaGreatDoor.Abs

/- Functions and calls, by the depth allowed; the interpreter at its limit. -/
namespace Go.Proofs.YticoldgiebmmgaaGreatDoor.Abs
set_option linter.all false
set_option linter.unusedVariables false

variable {P : Program} {sg : FuncId → Nat → Nat} {w w' : World} {G G' : Gh} {a : Act} {o : Oper} {Q : Exit → Act → World → Prop}
variable {w0 : World} {F0 : FT} {A : Nat → Prop} {n : Nat} {st : St} {β : Type}
variable {cl : FuncId → List AV → H → T (AV × H)} {lp : ACode → St → T (Ex × St)}

def XOk (P : Program) (f : FuncId) (x : List AV → H → Option AV) : Prop :=
  ∀ vs h0 v, x vs h0 = some v → (∀ u ∈ vs, u.isOwn = false) ∧ ∀ (w : World) (G : Gh) (args : Array Value), HR w G h0 → args.size = vs.length → (∀ i (h : i < vs.length) (h' : i < args.size), CR w G.Fr vs[i] args[i]) →
    Calls P f args w fun e w' => w' = w ∧ ∃ u, e = .returned u ∧ CR w G.Fr v u
theorem xok_none (P : Program) (f : FuncId) : XOk P f fun _ _ => none := fun _ _ _ h => by cases h

def FnsOk (P : Program) (sg : FuncId → Nat → Nat) (fns : FuncId → Option AFunc) : Prop :=
  ∀ f af, fns f = some af → ∃ fn, P.funcs[f]? = some fn ∧ (fn.name == "runtime.NumGoroutine") = false ∧ (∃ hs, pFunc P sg hs fn = some ⟨af.n, af.code, af.res, fun _ _ => none⟩) ∧ XOk P f af.x

theorem run_results (fn : Func) (tmps : Array Value) {us : List Value} (h : (fn.results.toList.mapM (resOne tmps)).run P w = .ok us w) :
    (results fn tmps).run P w = .ok (if h : us.length = 1 then us[0] else .tuple us.toArray) w := by
  have h1 : (fn.results.mapM (resOne tmps)).run P w = .ok us.toArray w := by
    rw [Array.mapM_eq_mapM_toList]
    simp [h]
  have h2 : results fn tmps = (do
    let vs ← fn.results.mapM (resOne tmps)
    pure (if h : vs.size = 1 then vs[0] else .tuple vs)) := by
    unfold results
    have : (resOne tmps) = (fun | .tmp t => pure (tmps.getD t undef) | .cell a t => do loadVar t (← asAddr (tmps.getD a undef))) := by
      funext r; cases r <;> rfl
    rw [this]
    rfl
  rw [h2]
  simp [h1]

theorem body_sound (hcl : CallOk P cl) (hlp : LoopOk P sg lp) (hm : P.follows .mixedOrders = true) {hs : Nat → Nat} {f : FuncId} {fn : Func} {af : AFunc} (hf : P.funcs[f]? = some fn) (hpf : pFunc P sg hs fn = some af)
    {vs : List AV} {h0 : H} {R : AV × H → Prop} (hlen : vs.length ≤ af.n) (hr : (xbody cl lp af vs h0).All R) {w : World} {G : Gh} {args : Array Value} (hsz : args.size = vs.length)
    (hargs : ∀ i (h : i < vs.length) (h' : i < args.size), TC w G (.arg i) vs[i] args[i] ∧ vs[i].plain = true) (hheap : HR w G h0) (hlt : ∀ b, outOwn G.ω b → b < w.heap.size) (hfr : ∀ b, w.heap.size ≤ b → G.Fr b = 0) :
    Calls P f args w (fun e w' => ∃ r, R r ∧ CallPost w G.Fr (outOwn G.ω) r e w') := by
  simp only [pFunc, Option.bind_eq_some_iff, Option.map_eq_some_iff] at hpf
  obtain ⟨c, hbody, x, hx, rs, hrs, rfl⟩ := hpf
  simp only [xbody, T.All_bind, T.All_ofO] at hr
  simp only at hlen
  let ω0 : Nat → Pos := fun b => match G.ω b with | .arg i => .slot i 0 | .box (.obj i) => .box (.obj i) | .cell (.obj i) c => .cell (.obj i) c | _ => .free
  have hω0 : ∀ b i, G.ω b = .arg i → ω0 b = .slot i 0 := fun b i h => by simp only [ω0, h]
  let st0 : St := ⟨fun j => (vs[j]?).getD .undef, fun _ => none, h0⟩
  let a0 : Act := { tmps := args ++ Array.replicate (fn.ntmps - args.size) undef, defers := [] }
  have hS : SR w G.Fr (outOwn G.ω) fn.ntmps st0 a0 w ⟨G.Fr, fun _ => none, ω0⟩ := by
    refine ⟨by simp only [a0, Array.size_append, Array.size_replicate]; omega, rfl, fun t => ?_, fun s cs hs => (by cases hs), ?_, Kp.refl _ _, Ext.refl _ _, fun b hb => ?_, fun _ _ _ => rfl, hfr, fun _ _ => rfl⟩
    · by_cases ht : t < vs.length
      · have e1 : (vs[t]?).getD .undef = vs[t] := by rw [List.getElem?_eq_getElem ht]; rfl
        have e2 : a0.tmps.getD t undef = args[t] := by
          simp [a0, Array.getD_eq_getD_getElem?, Array.getElem?_append, hsz, ht]
        obtain ⟨h1, h2⟩ := hargs t ht (by omega)
        show TR w _ (.slot t) ((vs[t]?).getD .undef) _
        rw [e1, e2]
        exact TR_of_TC (h1.pos (β2 := fun _ => none) (fun b hb => hω0 b t hb)) h2
      · have e1 : (vs[t]?).getD .undef = .undef := by rw [List.getElem?_eq_none (by omega)]; rfl
        show TR w _ (.slot t) ((vs[t]?).getD .undef) _
        rw [e1]; trivial
    · refine ⟨fun i ob hi => BoxR.keeps (G := G) (G' := ⟨G.Fr, fun _ => none, ω0⟩) (Ext.refl _ _) (fun t ht => ht) (fun p hp b hb _ => ⟨rfl, rfl, ?_⟩) (hheap.box i ob hi), hheap.ids, hheap.glob⟩
      have hb' : G.ω b = p := hb
      rcases hp with rfl | ⟨c, rfl⟩ <;> simp only [ω0, hb']
    · have key : outOwn G.ω b → b < w.heap.size ∧ (outOwn G.ω b ∨ w.heap.size ≤ b) := fun ho => ⟨hlt b ho, .inl ho⟩
      simp only [ω0] at hb
      split at hb
      · rename_i i hi; exact key (by unfold outOwn; rw [hi]; rfl)
      · rename_i i hi; exact key (by unfold outOwn; rw [hi]; rfl)
      · rename_i i hi; exact key (by unfold outOwn; rw [hi]; rfl)
      · exact absurd rfl hb
  refine calls_of_wp hf hbody (wp_mono (code_sound hcl hlp hm hx hr hS) ?_)
  have fin : ∀ {st : St} {a : Act} {w' : World} {G' : Gh} {us : List AV × St}, SR w G.Fr (outOwn G.ω) fn.ntmps st a w' G' → xresults rs st = some us → R (oneOrTup us.1, us.2.h) →
      a.defers = [] ∧ ∃ v, (results fn a.tmps).run P w' = .ok v w' ∧ ∃ r, R r ∧ CallPost w G.Fr (outOwn G.ω) r (.returned v) w' := by
    intro st a w' G' us hS' hus hr'
    obtain ⟨vs', G2, e1, _, e3, e4, _, e6⟩ := results_sound (if us.1.length = 1 then 0 else 1) hrs hus hS'
    refine ⟨hS'.defers, _, run_results fn a.tmps e1, _, hr', _, G2.Fr, G2.ω, rfl, e4.kept, e4.ext, e4.same, e4.fresh, ?_, ?_, fun b hb => e4.mine b (fun e => by unfold outOwn at hb; rw [e] at hb; cases hb)⟩
    · show TR w' _ .arg (oneOrTup us.1) _
      by_cases h1 : us.1.length = 1
      · obtain ⟨us1, us2⟩ := us
        simp only at h1 e3 e6 ⊢
        obtain ⟨u, rfl⟩ := List.length_eq_one_iff.1 h1
        obtain ⟨v, rfl⟩ := List.length_eq_one_iff.1 (e3.trans h1)
        have := e6 0 (by simp) (by simp)
        simp only [List.length_cons, List.length_nil, if_true, Nat.zero_add, List.getElem_cons_zero] at this
        simp only [oneOrTup, List.length_cons, List.length_nil, dite_true, List.getElem_cons_zero, Nat.zero_add]
        exact TR_of_TC (TC.pos (β2 := fun _ => none) (ω1 := G2.ω) (β1 := G2.β) (p := .arg 0) (fun _ h => h) this.1) this.2
      · rw [if_neg h1] at e6
        have hot : oneOrTup us.1 = .tup us.1 := by
          unfold oneOrTup; split
          · rename_i hh; rw [hh] at h1; simp at h1
          · rfl
        rw [hot, dif_neg (by rw [e3]; exact h1)]
        refine ⟨vs'.toArray, rfl, by simpa using e3, fun j hj hj' => ?_⟩
        have := e6 j hj (by simpa using hj')
        rw [Nat.add_comm 1 j] at this
        simpa using TC.pos (β2 := fun _ => none) (ω1 := G2.ω) (β1 := G2.β) (p := .arg (j + 1)) (fun _ h => h) this.1
    · exact ⟨fun i ob hi => BoxR.keeps (G := G2) (G' := ⟨G2.Fr, fun _ => none, G2.ω⟩) (Ext.refl _ _) (fun t ht => ht) (fun p hp b hb _ => ⟨rfl, rfl, hb⟩) (e4.heap.box i ob hi), e4.heap.ids, e4.heap.glob⟩
  intro e a w' hq
  cases e with
  | normal =>
    obtain ⟨st', G', h1, h2⟩ := hq
    simp only [xexec, T.All_ret, xend, obind_eq_some] at h2
    obtain ⟨r, ⟨us, hus, hr1⟩, hR⟩ := h2
    injection hr1 with hr1; subst hr1
    exact fin h1 hus hR
  | ret =>
    obtain ⟨st', G', h1, h2⟩ := hq
    simp only [xend, obind_eq_some] at h2
    obtain ⟨r, ⟨us, hus, hr1⟩, hR⟩ := h2
    injection hr1 with hr1; subst hr1
    exact fin h1 hus hR
  | exit id =>
    obtain ⟨st', G', h1, h2⟩ := hq
    obtain ⟨r, hr1, _⟩ := h2
    cases hr1
  | _ => exact hq.elim

theorem xcall_sound {f : FuncId} {x : List AV → H → Option AV} (hxo : XOk P f x) {vs : List AV} {v : AV} {h0 : H} (hv : x vs h0 = some v) {R : AV × H → Prop} (hr : (T.ret (v, h0)).All R) {w : World} {G : Gh} {args : Array Value} (hsz : args.size = vs.length)
    (hargs : ∀ i (h : i < vs.length) (h' : i < args.size), TC w G (.arg i) vs[i] args[i] ∧ vs[i].plain = true) (hheap : HR w G h0) (hlt : ∀ b, outOwn G.ω b → b < w.heap.size) (hfr : ∀ b, w.heap.size ≤ b → G.Fr b = 0) :
    Calls P f args w (fun e w' => ∃ r, R r ∧ CallPost w G.Fr (outOwn G.ω) r e w') := by
  obtain ⟨ho, hc⟩ := hxo vs h0 v hv
  refine (hc w G args hheap hsz fun i h h' => CR_of_TC (hargs i h h').1 (ho _ (List.getElem_mem h))).mono ?_
  rintro e w' ⟨rfl, u, rfl, hu⟩
  let ω1 : Nat → Pos := fun b => match G.ω b with | .box (.obj i) => .box (.obj i) | .cell (.obj i) c => .cell (.obj i) c | _ => .free
  refine ⟨(v, h0), hr, u, G.Fr, ω1, rfl, Kp.refl _ _, Ext.refl _ _, fun _ _ _ => rfl, hfr, TR_of_CR hu, ⟨fun i ob hi => ?_, hheap.ids, hheap.glob⟩, fun b hb => ?_⟩
  · refine BoxR.keeps (G := G) (G' := ⟨G.Fr, fun _ => none, ω1⟩) (Ext.refl _ _) (fun t ht => ht) (fun p hp b hb _ => ⟨rfl, rfl, ?_⟩) (hheap.box i ob hi)
    have hb' : G.ω b = p := hb
    rcases hp with rfl | ⟨c, rfl⟩ <;> simp only [ω1, hb']
  · have key : outOwn G.ω b → b < w'.heap.size ∧ (outOwn G.ω b ∨ w'.heap.size ≤ b) := fun ho => ⟨hlt b ho, .inl ho⟩
    unfold outOwn at hb
    simp only [ω1] at hb
    split at hb
    · rename_i i hi; exact key (by unfold outOwn; rw [hi]; rfl)
    · rename_i i hi; exact key (by unfold outOwn; rw [hi]; rfl)
    · cases hb

theorem entered_sound (hcl : CallOk P cl) (hlp : LoopOk P sg lp) (hm : P.follows .mixedOrders = true) {hs : Nat → Nat} {f : FuncId} {fn : Func} {af : AFunc} (hf : P.funcs[f]? = some fn) (hpf : pFunc P sg hs fn = some ⟨af.n, af.code, af.res, fun _ _ => none⟩)
    (hxo : XOk P f af.x) {vs : List AV} {h0 : H} {R : AV × H → Prop} (hlen : vs.length ≤ af.n) (hr : (match af.x vs h0 with | some v => (T.ret (v, h0)) | none => xbody cl lp af vs h0).All R) {w : World} {G : Gh} {args : Array Value} (hsz : args.size = vs.length)
    (hargs : ∀ i (h : i < vs.length) (h' : i < args.size), TC w G (.arg i) vs[i] args[i] ∧ vs[i].plain = true) (hheap : HR w G h0) (hlt : ∀ b, outOwn G.ω b → b < w.heap.size) (hfr : ∀ b, w.heap.size ≤ b → G.Fr b = 0) :
    Calls P f args w (fun e w' => ∃ r, R r ∧ CallPost w G.Fr (outOwn G.ω) r e w') := by
  split at hr
  · rename_i v hv
    exact xcall_sound hxo hv hr hsz hargs hheap hlt hfr
  · exact body_sound (af := ⟨af.n, af.code, af.res, fun _ _ => none⟩) hcl hlp hm hf hpf hlen hr hsz hargs hheap hlt hfr

theorem runs_enter {f : FuncId} {fn : Func} {c : Code} (hf : P.funcs[f]? = some fn) (hname : (fn.name == "runtime.NumGoroutine") = false) (hb : fn.body = some c) (args : Array Value) (w : World) :
    (callFunc f args).run P w = .ok (.enter f args) w := by
  have h1 : fn.name ≠ "runtime.NumGoroutine" := by simpa using hname
  simp [callFunc, hf, h1, hb]

def LoopRounds (P : Program) (sg : FuncId → Nat → Nat) (fns : FuncId → Option AFunc) (m : Nat) : Prop :=
  ∀ {w0 : World} {F0 : FT} {A : Nat → Prop} {n : Nat} {hs : Nat → Nat} {c : Code} {c' : ACode}, pCode P sg hs n c .skip = some c' → ∀ {st : St} {R : Ex × St → Prop}, (loopN fns m c' st).All R → ∀ {a : Act} {w : World} {G : Gh}, SR w0 F0 A n st a w G →
    Code.rounds P c (CQ w0 F0 A n (fun st => .ret (.normal, st)) R) m a w

theorem calls_sound {fns : FuncId → Option AFunc} (hfn : FnsOk P sg fns) (hm : P.follows .mixedOrders = true) : ∀ m, CallOk P (callN fns m) ∧ LoopRounds P sg fns m := by
  intro m
  induction m with
  | zero => exact ⟨fun f vs h R hh => hh.elim, fun _ _ _ h => h.elim⟩
  | succ m ih =>
    obtain ⟨ihc, ihl⟩ := ih
    have ihl' : LoopOk P sg (loopN fns m) := fun hc _ _ hl _ _ _ h => wp_loop_rounds m (ihl hc hl h)
    refine ⟨fun f vs h0 R h w G args h1 h2 h3 h4 h5 => ?_, fun hc st R hl a w G h => ?_⟩
    · simp only [callN, T.All_on] at h
      obtain ⟨af, haf, h⟩ := h
      split at h
      · rename_i hle
        obtain ⟨fn, hf, hname, ⟨hs, hpf⟩, hxo⟩ := hfn f af haf
        have hb : ∃ c, fn.body = some c := by
          simp only [pFunc, Option.bind_eq_some_iff] at hpf
          obtain ⟨c, hc, _⟩ := hpf
          exact ⟨c, hc⟩
        obtain ⟨c, hc⟩ := hb
        exact .inr ⟨f, runs_enter hf hname hc args w, entered_sound ihc ihl' hm hf hpf hxo hle h h1 h2 h3 h4 h5⟩
      · exact h.elim
    · simp only [loopN, T.All_bind] at hl
      rw [rounds_succ]
      refine wp_mono (code_sound ihc ihl' hm hc hl h) ?_
      intro e a' w' hq
      cases e with
      | normal =>
        obtain ⟨st', G', k1, k2⟩ := hq
        exact ihl hc k2 k1
      | exit id => obtain ⟨st', G', k1, k2⟩ := hq; exact ⟨st', G', k1, k2⟩
      | ret => obtain ⟨st', G', k1, k2⟩ := hq; exact ⟨st', G', k1, k2⟩
      | _ => exact hq.elim

end Go.Proofs.YticoldgiebmmgaaGreatDoor.Abs

/- The interpreter at its limit: what holds from some depth on. -/
namespace Go.Proofs.YticoldgiebmmgaaGreatDoor.Abs
set_option linter.all false
set_option linter.unusedVariables false

/-! ### More depth, no fewer outcomes -/
def LE (cl cl' : FuncId → List AV → H → T (AV × H)) : Prop := ∀ f vs h R, (cl f vs h).All R → (cl' f vs h).All R
def LEl (lp lp' : ACode → St → T (Ex × St)) : Prop := ∀ c st R, (lp c st).All R → (lp' c st).All R

section
variable {β : Type} {cl cl' : FuncId → List AV → H → T (AV × H)} {lp lp' : ACode → St → T (Ex × St)}
theorem fillK_mono {R : β → Prop} : ∀ {l : List (Nat × Nat × AX)} {cs : List AV} {st : St} {k k' : List AV → St → T β}, (∀ cs st, (k cs st).All R → (k' cs st).All R) → (fillK l cs st k).All R → (fillK l cs st k').All R
  | [], cs, st, k, k', hk, h => hk _ _ h
  | (off, n, x) :: l, cs, st, k, k', hk, h => by
    simp only [fillK, T.All_on] at h ⊢
    obtain ⟨cs1, h1, h2⟩ := h
    exact ⟨cs1, h1, fillK_mono hk h2⟩
theorem argsK_mono {R : β → Prop} : ∀ {l : List (AX × Bool)} {st : St} {k k' : List AV → St → T β}, (∀ vs st, (k vs st).All R → (k' vs st).All R) → (argsK l st k).All R → (argsK l st k').All R
  | [], st, k, k', hk, h => hk _ _ h
  | (x, true) :: l, st, k, k', hk, h => by
    simp only [argsK, T.All_on] at h ⊢
    obtain ⟨u, h1, h2⟩ := h
    exact ⟨u, h1, argsK_mono (fun _ _ => hk _ _) h2⟩
  | (x, false) :: l, st, k, k', hk, h => by
    simp only [argsK, T.All_on] at h ⊢
    obtain ⟨u, h1, h2⟩ := h
    exact ⟨u, h1, argsK_mono (fun _ _ => hk _ _) h2⟩
theorem opK_mono (hc : LE cl cl') {R : β → Prop} {x : AOp} {st : St} {k k' : AV → St → T β} (hk : ∀ v st, (k v st).All R → (k' v st).All R) (h : (opK cl x st k).All R) : (opK cl' x st k').All R := by
  cases x
  case call f args =>
    simp only [opK] at h ⊢
    refine argsK_mono (fun vs st h => ?_) h
    simp only [T.All_bind, T.All_on] at h ⊢
    exact T.All.mono (fun q ⟨v, h1, h2⟩ => ⟨v, h1, hk _ _ h2⟩) (hc _ _ _ _ h)
  case hcall f args =>
    simp only [opK] at h ⊢
    refine argsK_mono (fun vs st h => ?_) h
    simp only [T.All_bind] at h ⊢
    exact T.All.mono (fun q h2 => hk _ _ h2) (hc _ _ _ _ h)
  case dcall hc' tbl x args =>
    simp only [opK] at h ⊢
    refine argsK_mono (fun vs st h => ?_) h
    simp only [T.All_on] at h ⊢
    obtain ⟨q, h1, h⟩ := h
    refine ⟨q, h1, ?_⟩
    cases hc' with
    | true =>
      simp only [T.All_bind] at h ⊢
      exact T.All.mono (fun q h2 => hk _ _ h2) (hc _ _ _ _ h)
    | false =>
      simp only [T.All_bind, T.All_on] at h ⊢
      exact T.All.mono (fun q ⟨v, h1, h2⟩ => ⟨v, h1, hk _ _ h2⟩) (hc _ _ _ _ h)
  case newbox1 d cs =>
    simp only [opK] at h ⊢
    split at h
    · exact hk _ _ h
    · exact h.elim
  case range d x =>
    simp only [opK, T.All_on] at h ⊢
    obtain ⟨v, h1, h2⟩ := h
    refine ⟨v, h1, ?_⟩
    cases v <;> first | exact hk _ _ h2 | exact h2
  all_goals simp only [opK, T.All_on, T.All_bind] at h ⊢
  all_goals first
    | exact hk _ _ h
    | (obtain ⟨v, h1, h2⟩ := h; exact ⟨v, h1, hk _ _ h2⟩)
    | exact fillK_mono (fun _ _ => hk _ _) h
    | exact T.All.mono (fun q h2 => hk _ _ h2) h
    | exact h
theorem opsK_mono (hc : LE cl cl') {R : β → Prop} : ∀ {l : List AOper} {st : St} {k k' : St → T β}, (∀ st, (k st).All R → (k' st).All R) → (opsK cl l st k).All R → (opsK cl' l st k').All R
  | [], st, k, k', hk, h => hk _ h
  | o :: l, st, k, k', hk, h => by
    cases hg : o.guard with
    | none =>
      simp only [opsK, hg] at h ⊢
      exact opK_mono hc (fun v st h => opsK_mono hc hk h) h
    | some g =>
      obtain ⟨d, want⟩ := g
      simp only [opsK, hg, T.All_bind] at h ⊢
      refine T.All.mono (fun st h => opsK_mono hc hk h) ?_
      unfold onGuard at h ⊢
      split at h
      · split at h
        · rename_i b _ hb; rw [if_pos hb]; exact opK_mono hc (fun _ _ h => h) h
        · rename_i b _ hb; rw [if_neg hb]; exact h
      · exact h
      · exact h
theorem xexec_mono (hc : LE cl cl') (hl : LEl lp lp') : ∀ {c : ACode} {st : St} {R : Ex × St → Prop}, (xexec cl lp c st).All R → (xexec cl' lp' c st).All R := by
  intro c
  induction c with
  | skip => intro st R h; exact h
  | ops l k ih => intro st R h; simp only [xexec] at h ⊢; exact opsK_mono hc (fun st h => ih h) h
  | seq a k iha ihk =>
    intro st R h
    simp only [xexec, T.All_bind] at h ⊢
    refine T.All.mono (fun r h => ?_) (iha h)
    obtain ⟨e, st⟩ := r
    cases e <;> first | exact ihk h | exact h
  | cond c a b iha ihb =>
    intro st R h
    simp only [xexec] at h ⊢
    unfold onBool at h ⊢
    split at h
    · exact iha h
    · exact ihb h
    · exact h
  | block id a ih => intro st R h; simp only [xexec, T.All_bind] at h ⊢; exact ih h
  | loop a ih => intro st R h; exact hl _ _ _ h
  | exit id => intro st R h; exact h
  | ret => intro st R h; exact h
end

section
variable (fns : FuncId → Option AFunc)
theorem callN_mono : ∀ m, LE (callN fns m) (callN fns (m + 1)) ∧ LEl (loopN fns m) (loopN fns (m + 1)) := by
  intro m
  induction m with
  | zero => exact ⟨fun _ _ _ _ h => h.elim, fun _ _ _ h => h.elim⟩
  | succ m ih =>
    refine ⟨fun f vs h R hh => ?_, fun c st R hh => ?_⟩
    · simp only [callN, T.All_on] at hh ⊢
      obtain ⟨af, h1, h2⟩ := hh
      refine ⟨af, h1, ?_⟩
      split at h2
      · rename_i hle
        rw [if_pos hle]
        split at h2
        · rename_i v hv
          exact h2
        · rename_i hv
          simp only [xbody, T.All_bind] at h2 ⊢
          have := xexec_mono ih.1 ih.2 h2
          simp only [callN] at this ⊢
          exact this
      · exact h2.elim
    · have hh' : (xexec (callN fns m) (loopN fns m) c st).All fun r => (goOn r fun st => loopN fns m c st).All R := by simpa only [loopN, T.All_bind] using hh
      show ((xexec (callN fns (m + 1)) (loopN fns (m + 1)) c st).bind fun r => goOn r fun st => loopN fns (m + 1) c st).All R
      rw [T.All_bind]
      refine T.All.mono (fun r h => ?_) (xexec_mono ih.1 ih.2 hh')
      obtain ⟨e, st⟩ := r
      cases e <;> first | exact ih.2 _ _ _ h | exact h
theorem callN_le {m m' : Nat} (h : m ≤ m') : LE (callN fns m) (callN fns m') ∧ LEl (loopN fns m) (loopN fns m') := by
  induction h with
  | refl => exact ⟨fun _ _ _ _ h => h, fun _ _ _ h => h⟩
  | step _ ih => exact ⟨fun f vs h R hh => (callN_mono fns _).1 f vs h R (ih.1 f vs h R hh), fun c st R hh => (callN_mono fns _).2 c st R (ih.2 c st R hh)⟩
end

/-! ### From some depth on -/
def Ev {α : Type} (x : Nat → T α) (R : α → Prop) : Prop := ∃ m, (x m).All R
def Up {α : Type} (x : Nat → T α) : Prop := ∀ m m' R, m ≤ m' → (x m).All R → (x m').All R

section
variable {α β : Type}
theorem Ev.mono {x : Nat → T α} {R R' : α → Prop} (h : Ev x R) (k : ∀ a, R a → R' a) : Ev x R' := by obtain ⟨m, h⟩ := h; exact ⟨m, h.mono k⟩
theorem Ev_ret (a : α) (R : α → Prop) : Ev (fun _ => .ret a) R ↔ R a := ⟨fun ⟨_, h⟩ => h, fun h => ⟨0, h⟩⟩
theorem Ev_on {o : Option α} {f : Nat → α → T β} {R : β → Prop} : Ev (fun m => T.on o (f m)) R ↔ ∃ a, o = some a ∧ Ev (fun m => f m a) R := by
  constructor
  · intro ⟨m, h⟩
    obtain ⟨a, h1, h2⟩ := T.All_on.1 h
    exact ⟨a, h1, m, h2⟩
  · intro ⟨a, h1, m, h2⟩
    exact ⟨m, T.All_on.2 ⟨a, h1, h2⟩⟩
theorem All_unif {p : Nat → α → Prop} (hp : ∀ m m' a, m ≤ m' → p m a → p m' a) : ∀ {t : T α}, (t.All fun a => ∃ m, p m a) → ∃ m, t.All (p m)
  | .ret a, h => h
  | .fail, h => h.elim
  | .pick n k, h => by
    have : ∀ j, j ≤ n + 1 → ∃ m, ∀ d, d < j → (k d).All (p m) := by
      intro j
      induction j with
      | zero => intro _; exact ⟨0, fun d hd => absurd hd (by omega)⟩
      | succ j ih =>
        intro hj
        obtain ⟨m1, h1⟩ := ih (by omega)
        obtain ⟨m2, h2⟩ := All_unif hp (h j (by omega))
        refine ⟨max m1 m2, fun d hd => ?_⟩
        rcases Nat.lt_or_ge d j with h' | h'
        · exact T.All.mono (fun a h => hp _ _ a (Nat.le_max_left _ _) h) (h1 d h')
        · obtain rfl : d = j := by omega
          exact T.All.mono (fun a h => hp _ _ a (Nat.le_max_right _ _) h) h2
    obtain ⟨m, hm⟩ := this (n + 1) (Nat.le_refl _)
    exact ⟨m, fun d hd => hm d (by omega)⟩
theorem Ev_bind {x : Nat → T α} {f : Nat → α → T β} {R : β → Prop} (hx : Up x) (hf : ∀ a, Up fun m => f m a) : Ev (fun m => (x m).bind (f m)) R ↔ Ev x fun a => Ev (fun m => f m a) R := by
  constructor
  · intro ⟨m, h⟩
    exact ⟨m, T.All.mono (fun a h => ⟨m, h⟩) (T.All_bind.1 h)⟩
  · intro ⟨m, h⟩
    obtain ⟨m', h'⟩ := All_unif (p := fun m a => (f m a).All R) (fun _ _ a hm h => hf a _ _ _ hm h) h
    refine ⟨max m m', T.All_bind.2 ?_⟩
    refine hx _ _ _ (Nat.le_max_left _ _) ?_
    exact T.All.mono (fun a h => hf a _ _ _ (Nat.le_max_right m m') h) h'
end

section
variable (fns : FuncId → Option AFunc)
theorem up_call (f : FuncId) (vs : List AV) (h : H) : Up fun m => callN fns m f vs h := fun m m' R hm hh => (callN_le fns hm).1 _ _ _ _ hh
theorem up_loop (c : ACode) (st : St) : Up fun m => loopN fns m c st := fun m m' R hm hh => (callN_le fns hm).2 _ _ _ hh
theorem up_exec (c : ACode) (st : St) : Up fun m => xexec (callN fns m) (loopN fns m) c st := fun m m' R hm hh => xexec_mono (callN_le fns hm).1 (callN_le fns hm).2 hh
theorem up_ops (l : List AOper) (c : ACode) (st : St) : Up fun m => opsK (callN fns m) l st fun st => xexec (callN fns m) (loopN fns m) c st :=
  fun m m' R hm hh => opsK_mono (callN_le fns hm).1 (fun st h => up_exec fns c st m m' R hm h) hh

def CW (f : FuncId) (vs : List AV) (h : H) (R : AV × H → Prop) : Prop := Ev (fun m => callN fns m f vs h) R
def LoopR (c : ACode) (st : St) (R : Ex × St → Prop) : Prop := Ev (fun m => loopN fns m c st) R

open Classical in
noncomputable def callω (f : FuncId) (vs : List AV) (h : H) : Option (AV × H) := if hh : ∃ r, CW fns f vs h (· = r) then some hh.choose else none
open Classical in
noncomputable def callv0 (f : FuncId) (vs : List AV) (h : H) : Option AV := if hh : ∃ v, CW fns f vs h (fun q => noHeap h.n q = some v) then some hh.choose else none

theorem CW.and {f : FuncId} {vs : List AV} {h : H} {R R' : AV × H → Prop} (h1 : CW fns f vs h R) (h2 : CW fns f vs h R') : CW fns f vs h fun q => R q ∧ R' q := by
  obtain ⟨a, ha⟩ := h1; obtain ⟨b, hb⟩ := h2
  exact ⟨max a b, T.All.and (up_call fns f vs h a _ _ (Nat.le_max_left _ _) ha) (up_call fns f vs h b _ _ (Nat.le_max_right _ _) hb)⟩
theorem CW.ex {f : FuncId} {vs : List AV} {h : H} {R : AV × H → Prop} (h1 : CW fns f vs h R) : ∃ q, R q := by
  obtain ⟨a, ha⟩ := h1; exact ha.ex

theorem callω_spec {f : FuncId} {vs : List AV} {h : H} {r : AV × H} : callω fns f vs h = some r ↔ CW fns f vs h (· = r) := by
  unfold callω
  constructor
  · intro h
    split at h
    · rename_i hh; injection h with h; rw [← h]; exact hh.choose_spec
    · cases h
  · intro h
    have hh : ∃ r, CW fns f vs _ (· = r) := ⟨r, h⟩
    rw [dif_pos hh]
    obtain ⟨q, h1, h2⟩ := ((hh.choose_spec).and fns h).ex
    rw [← h1, h2]
theorem CW_det {f : FuncId} {vs : List AV} {h : H} {r : AV × H} (he : callω fns f vs h = some r) (R : AV × H → Prop) : CW fns f vs h R ↔ R r := by
  have h1 := (callω_spec fns).1 he
  constructor
  · intro h2
    obtain ⟨q, h3, h4⟩ := (h1.and fns h2).ex
    rw [← h3]; exact h4
  · intro h2
    exact Ev.mono h1 fun q hq => by rw [hq]; exact h2
theorem callv0_spec {f : FuncId} {vs : List AV} {h : H} {v : AV} : callv0 fns f vs h = some v ↔ CW fns f vs h (fun q => noHeap h.n q = some v) := by
  unfold callv0
  constructor
  · intro h
    split at h
    · rename_i hh; injection h with h; rw [← h]; exact hh.choose_spec
    · cases h
  · intro h
    have hh : ∃ v, CW fns f vs _ (fun q => noHeap _ q = some v) := ⟨v, h⟩
    rw [dif_pos hh]
    obtain ⟨q, h1, h2⟩ := ((hh.choose_spec).and fns h).ex
    exact h1.symm.trans h2
noncomputable def callv (f : FuncId) (vs : List AV) (h : H) : Option AV := (callω fns f vs h).elim (callv0 fns f vs h) (noHeap h.n)
theorem callv_spec {f : FuncId} {vs : List AV} {h : H} {v : AV} : callv fns f vs h = some v ↔ CW fns f vs h (fun q => noHeap h.n q = some v) := by
  unfold callv
  cases he : callω fns f vs h with
  | none => exact callv0_spec fns
  | some q => exact (CW_det fns he (fun q => noHeap h.n q = some v)).symm

theorem CW_of {f : FuncId} {af : AFunc} (hf : fns f = some af) {vs : List AV} {h0 : H} (hl : vs.length ≤ af.n) (hx : af.x vs h0 = none) {R : AV × H → Prop} (h : Ev (fun m => xbody (callN fns m) (loopN fns m) af vs h0) R) : CW fns f vs h0 R := by
  obtain ⟨m, hm⟩ := h
  refine ⟨m + 1, ?_⟩
  simp only [callN, T.All_on]
  exact ⟨af, hf, by rw [if_pos hl, hx]; exact hm⟩
theorem LoopR_of {c : ACode} {st : St} {R : Ex × St → Prop} (h : Ev (fun m => xexec (callN fns m) (loopN fns m) c st) fun r => Ev (fun m => goOn r fun st => loopN fns m c st) R) : LoopR fns c st R := by
  have hup : ∀ r : Ex × St, Up fun m => goOn r fun st => loopN fns m c st := fun r => by
    obtain ⟨e, st⟩ := r
    cases e <;> first | exact up_loop fns c st | exact fun _ _ _ _ h => h
  obtain ⟨m, hm⟩ := (Ev_bind (up_exec fns c st) hup).2 h
  exact ⟨m + 1, hm⟩
end

end Go.Proofs.YticoldgiebmmgaaGreatDoor.Abs

/- What a law's reading of its arguments says, as abstract values. -/
namespace Go.Proofs.YticoldgiebmmgaaGreatDoor.Abs
set_option linter.all false
set_option linter.unusedVariables false

def laidFrom (P : Program) : List Field → Nat → Option Nat
  | [], o => some o
  | f :: r, o => if f.offset = o then laidFrom P r (o + P.cellsOf f.type) else none

def closedB (P : Program) (T : List TypeId) : Bool :=
  T.all fun t => match P.underlying t with
    | some .bool => true
    | some (.int _) => true
    | some .string => true
    | some (.slice e) => T.contains e && decide (0 < P.cellsOf e) && decide (0 < P.bytesOf e)
    | some (.struct fs) => (fs.toList.all fun f => T.contains f.type) && (laidFrom P fs.toList 0 == some (P.cellsOf t))
    | _ => false

def fitsFields (F : TypeId → List AV → Prop) : List Field → List AV → Prop
  | [], xs => xs = []
  | f :: r, xs => ∃ p q, xs = p ++ q ∧ F f.type p ∧ fitsFields F r q

def FitsC (P : Program) : Nat → TypeId → List AV → Prop
  | 0, _, _ => False
  | k + 1, t, xs =>
    match P.underlying t with
    | some .bool => ∃ b, xs = [.bool b]
    | some (.int i) => ∃ n, xs = [.int i n] ∧ i.min ≤ n ∧ n ≤ i.max
    | some .string => ∃ s, xs = [.str s] ∧ s.length ≤ reachBytes
    | some (.slice e) => xs = [.slice .nil 0 1 []] ∨ ∃ rows : List (List AV), xs = [.slice .frz e (P.cellsOf e) rows.flatten] ∧ rows.length ≤ reachBytes ∧ ∀ r ∈ rows, r.length = P.cellsOf e ∧ FitsC P k e r
    | some (.struct fs) => fitsFields (FitsC P k) fs.toList xs
    | _ => False

def allF (w : World) (b : Nat) : Nat :=
  match w.heap[b]? with
  | some (.cells vs _ _) => vs.size
  | _ => 0

theorem allF_lt {w : World} {b o : Nat} {v : Value} (h : w.cell? ⟨b, o, none⟩ = some v) : o < allF w b := by
  unfold World.cell? at h
  unfold allF
  split at h
  · rename_i c e fz hb
    simp only at hb
    rw [hb]
    simp at h
    exact (Array.getElem?_eq_some_iff.1 h).1
  · cases h

theorem allF_new (w : World) : ∀ b, w.heap.size ≤ b → allF w b = 0 := by
  intro b hb
  unfold allF
  rw [Array.getElem?_eq_none (by omega)]

theorem cell_spot {w : World} {a : Addr} {v : Value} (h : w.cell? a = some v) : a.spot = none := by
  unfold World.cell? at h
  split at h
  · cases hs : a.spot with
    | none => rfl
    | some x => rw [hs] at h; simp at h
  · cases h

theorem add_zero' (a : Addr) : a.add 0 = a := by unfold Addr.add; simp

section
variable {H : Type} {enc : TypeId × Value → H} {P : Program} {w : World} {base : Nat} {spare : Nat → Bool} {held : Bool} {F : FT}

def CellsR (w : World) (F : FT) (xs : List AV) (cs : List Value) : Prop :=
  cs.length = xs.length ∧ ∀ i (h : i < xs.length) (h' : i < cs.length), (cs[i]).oneCell' = true ∧ CR w F xs[i] cs[i]

theorem CellsR.nil : CellsR w F [] [] := ⟨rfl, fun i h => absurd h (by simp)⟩
theorem CellsR.one {x : AV} {v : Value} (h1 : v.oneCell' = true) (h2 : CR w F x v) : CellsR w F [x] [v] :=
  ⟨rfl, fun i h h' => by obtain rfl : i = 0 := (by simpa using h); exact ⟨h1, h2⟩⟩
theorem CellsR.append {xs ys : List AV} {cs ds : List Value} (h : CellsR w F xs cs) (k : CellsR w F ys ds) : CellsR w F (xs ++ ys) (cs ++ ds) := by
  refine ⟨by simp [h.1, k.1], fun i hi hi' => ?_⟩
  by_cases hc : i < cs.length
  · rw [List.getElem_append_left hc, List.getElem_append_left (by rw [← h.1]; exact hc)]
    exact h.2 i (by rw [← h.1]; exact hc) hc
  · rw [List.getElem_append_right (by omega), List.getElem_append_right (by rw [← h.1]; omega)]
    simp only [List.length_append] at hi
    have := k.2 (i - cs.length) (by have := h.1; omega) (by simp only [List.length_append] at hi'; omega)
    simpa only [h.1] using this

theorem fields_read {k : Nat} {cs : List Value} (hread : ∀ (f : Field) (ds : List Value), ds.length = P.cellsOf f.type → ds = ((cs.drop f.offset).take (P.cellsOf f.type)) → True) :
    ∀ {fs : List Field} {o : Nat}, laidFrom P fs o = some cs.length → (∀ f ∈ fs, ∃ xs, CellsR w F xs ((cs.drop f.offset).take (P.cellsOf f.type)) ∧ FitsC P k f.type xs) →
    o ≤ cs.length ∧ ∃ xs, CellsR w F xs (cs.drop o) ∧ fitsFields (FitsC P k) fs xs := by
  intro fs
  induction fs with
  | nil =>
    intro o hl _
    simp only [laidFrom, Option.some.injEq] at hl
    subst hl
    exact ⟨Nat.le_refl _, [], by rw [List.drop_length]; exact CellsR.nil, rfl⟩
  | cons f fs ih =>
    intro o hl hf
    simp only [laidFrom] at hl
    split at hl
    · rename_i ho
      obtain ⟨h1, xs, h2, h3⟩ := ih hl (fun f hm => hf f (List.mem_cons_of_mem _ hm))
      obtain ⟨ys, h4, h5⟩ := hf f (List.mem_cons_self)
      refine ⟨by omega, ys ++ xs, ?_, ys, xs, rfl, h5, h3⟩
      rw [ho] at h4
      have := h4.append h2
      rwa [← List.drop_drop, List.take_append_drop] at this
    · cases hl

theorem weights_mem_all {t : TypeId} {d : DataW H} {n : Nat} (hn : n ∈ d.weights P t) : ∀ {l : List (DataW H)}, d ∈ l → n ∈ DataW.weightsAll P t l
  | a :: l, hd => by
    simp only [DataW.weightsAll, List.mem_append]
    rcases List.mem_cons.1 hd with h | h
    · subst h; exact .inl hn
    · exact .inr (weights_mem_all hn h)

theorem read_sound (hF : ∀ b o v, w.cell? ⟨b, o, none⟩ = some v → o < F b) {T : List TypeId} (hT : closedB P T = true) : ∀ {fuel : Nat} {t : TypeId} {cs : List Value} {x : DataW H × List MemPlace}, t ∈ T →
    DataW.trod enc P w base spare held fuel t cs = some x → (∀ n ∈ x.1.weights P t, n ≤ reachBytes) → ∃ xs, CellsR w F xs cs ∧ FitsC P fuel t xs := by
  intro fuel
  induction fuel with
  | zero => intro t cs x _ h; simp [DataW.trod] at h
  | succ k ih =>
    intro t cs x ht h hz
    have hc := List.all_eq_true.1 hT t ht
    simp only [FitsC]
    cases hu : P.underlying t with
    | none => rw [hu] at hc; cases hc
    | some d =>
      rw [hu] at hc
      cases d with
      | bool =>
        obtain ⟨b, rfl, _⟩ := DataW.trod_bool hu h
        exact ⟨[.bool b], CellsR.one rfl (.bool b), b, rfl⟩
      | int i =>
        obtain ⟨n, rfl, _, hw⟩ := DataW.trod_int hu h
        simp only [Lit.wf, Bool.and_eq_true, decide_eq_true_eq] at hw
        exact ⟨[.int i n], CellsR.one rfl (.int i n), n, rfl, hw⟩
      | string =>
        obtain ⟨s, rfl, hx, hs⟩ := DataW.trod_string hu h
        subst hx
        exact ⟨[.str s.data.toList], CellsR.one rfl (.str s _ rfl), s.data.toList, rfl, hz _ (by simp [DataW.weights])⟩
      | slice e =>
        simp only [Bool.and_eq_true, decide_eq_true_eq, List.contains_iff_mem] at hc
        obtain ⟨⟨hce, hpos⟩, hbpos⟩ := hc
        rcases DataW.trod_slice hu h with ⟨rfl, _⟩ | ⟨a, len, cap, elems, rest, m, hm, rfl, hxe, hb, hlc, hcm, hlen, hel, _, _⟩
        · exact ⟨[.slice .nil 0 1 []], CellsR.one rfl (.nil 0 1), .inl rfl⟩
        · obtain rfl : m = k := (by omega)
          subst hxe
          simp only [DataW.weights, hu, List.mem_cons, List.mem_append, List.length_map] at hz
          have hlr : len ≤ reachBytes := by
            have h1 := hz _ (.inl rfl)
            rw [hlen] at h1
            exact Nat.le_trans (Nat.le_trans (Nat.le_add_right len rest.length) (Nat.le_mul_of_pos_right _ hbpos)) h1
          have key : ∀ j, j ≤ len → ∃ rows : List (List AV), rows.length = j ∧ (∀ r ∈ rows, r.length = P.cellsOf e ∧ FitsC P m e r) ∧ rows.flatten.length = j * P.cellsOf e ∧
              ∃ ds, CellsR w F rows.flatten ds ∧ ∀ i v, ds[i]? = some v → w.cell? (a.add i) = some v := by
            intro j
            induction j with
            | zero => intro _; exact ⟨[], rfl, fun r hr => (by cases hr), by simp, [], CellsR.nil, fun i v hv => by simp at hv⟩
            | succ j ihj =>
              intro hj
              obtain ⟨rows, h1, h2, h3, ds, h4, h5⟩ := ihj (by omega)
              have he := hel j (by omega)
              rw [List.getElem?_eq_getElem (by omega)] at he
              obtain ⟨cs', hcs, htr⟩ := Option.bind_eq_some_iff.1 he
              obtain ⟨_, hcl, hcell⟩ := World.cells?_some hcs
              obtain ⟨xs, hx1, hx2⟩ := ih hce htr (fun n hn => hz n (.inr (.inl (weights_mem_all hn (List.mem_map_of_mem (List.getElem_mem _))))))
              have hdl : ds.length = j * P.cellsOf e := by rw [h4.1, h3]
              refine ⟨rows ++ [xs], by simp [h1], fun r hr => ?_, by simp [h3, ← hx1.1, hcl, Nat.succ_mul], ds ++ cs', by simpa using h4.append hx1, fun i v hv => ?_⟩
              · rcases List.mem_append.1 hr with hr | hr
                · exact h2 r hr
                · simp only [List.mem_singleton] at hr; subst hr; exact ⟨by rw [← hx1.1, hcl], hx2⟩
              · by_cases hi : i < ds.length
                · rw [List.getElem?_append_left hi] at hv; exact h5 i v hv
                · rw [List.getElem?_append_right (by omega)] at hv
                  have hi2 : i - ds.length < P.cellsOf e := by rw [← hcl]; exact (List.getElem?_eq_some_iff.1 hv).1
                  have := hcell (i - ds.length) hi2
                  rw [hv] at this
                  rw [← this, hdl]
                  have hadd : (a.add (j * P.cellsOf e)).add (i - j * P.cellsOf e) = a.add i := by
                    have : i = j * P.cellsOf e + (i - j * P.cellsOf e) := by omega
                    conv => rhs; rw [this]
                    unfold Addr.add
                    by_cases h1 : j * P.cellsOf e = 0 <;> by_cases h2 : i - j * P.cellsOf e = 0 <;> simp [h1, h2, Nat.add_assoc]
                  rw [hadd]
          obtain ⟨rows, h1, h2, h3, ds, h4, h5⟩ := key len (Nat.le_refl _)
          refine ⟨[.slice .frz e (P.cellsOf e) rows.flatten], CellsR.one rfl ?_, .inr ⟨rows, rfl, by rw [h1]; exact hlr, h2⟩⟩
          have hsp : 0 < rows.flatten.length → a.spot = none := fun hp => by
            have hd0 : 0 < ds.length := by rw [h4.1]; exact hp
            have := h5 0 ds[0] (List.getElem?_eq_getElem hd0)
            rw [add_zero'] at this
            exact cell_spot this
          have hcell : ∀ i (hi : i < rows.flatten.length), w.cell? ⟨a.block, a.off + i, none⟩ = some (ds.getD i undef) := fun i hi => by
            have hi' : i < ds.length := by rw [h4.1]; exact hi
            have := h5 i ds[i] (List.getElem?_eq_getElem hi')
            rw [add_off a (hsp (by omega))] at this
            rw [this]; simp [List.getD, List.getElem?_eq_getElem hi']
          refine .frz e _ len cap a _ (fun i => ds.getD i undef) hsp hpos h3 hlc (fun i hi => hF _ _ _ (hcell i hi)) hcell (fun i hi => ?_) (fun i hi => ?_)
          · have hi' : i < ds.length := by rw [h4.1]; exact hi
            have := (h4.2 i hi hi').1
            simpa [List.getD, List.getElem?_eq_getElem hi'] using this
          · have hi' : i < ds.length := by rw [h4.1]; exact hi
            have := (h4.2 i hi hi').2
            simpa [List.getD, List.getElem?_eq_getElem hi'] using this
      | struct fs =>
        simp only [Bool.and_eq_true, beq_iff_eq, List.all_eq_true, List.contains_iff_mem] at hc
        obtain ⟨hcf, hlaid⟩ := hc
        obtain ⟨xs, m, hm, hxe, hcl, hxl, hfields⟩ := DataW.trod_struct hu h
        obtain rfl : m = k := (by omega)
        subst hxe
        simp only [DataW.weights, hu] at hz
        rw [← hcl] at hlaid
        obtain ⟨_, ys, h1, h2⟩ := fields_read (P := P) (w := w) (F := F) (k := m) (cs := cs) (fun _ _ _ _ => trivial) hlaid (fun f hf => by
          obtain ⟨i, hi, hif⟩ := List.getElem_of_mem hf
          have hif' : fs[i]? = some f := by
            rw [← hif]; simp
          have := hfields i f hif'
          have hxi : i < xs.length := by
            rw [hxl]; simpa using hi
          rw [List.getElem?_eq_getElem hxi] at this
          refine ih (hcf f hf) this (fun n hn => hz n ?_)
          refine DataW.weights_mem_each (j := i) (t := f.type) (d := xs[i].1) ?_ ?_ n hn
          · rw [List.getElem?_map, Array.getElem?_toList, hif']; rfl
          · rw [List.getElem?_map, List.getElem?_eq_getElem hxi]; rfl)
        exact ⟨ys, by simpa using h1, h2⟩
      | _ => cases hc
end

/-! ### Arguments -/
section
variable {H : Type} {enc : TypeId × Value → H} {P : Program} {w : World} {F : FT}

def FitsV (P : Program) (t : TypeId) (x : AV) : Prop :=
  ∃ fuel xs, FitsC P fuel t xs ∧ ((tagg P t = some true ∧ x = .agg xs) ∨ (tagg P t = some false ∧ xs = [x]))

theorem arg_sound (hF : ∀ b o v, w.cell? ⟨b, o, none⟩ = some v → o < F b) {T : List TypeId} (hT : closedB P T = true) {t : TypeId} (ht : t ∈ T) {base : Nat} {v : Value} (hv : Value.okWide P w .any base t v)
    {b0 : Nat} {spare : Nat → Bool} {held : Bool} {d : DataW H} {ps : List MemPlace} (h : DataW.Trod enc P w b0 spare held t v d ps) (hz : ∀ n ∈ d.weights P t, n ≤ reachBytes) : ∃ x, CR w F x v ∧ FitsV P t x := by
  obtain ⟨fuel, h⟩ := h
  obtain ⟨xs, h1, h2⟩ := read_sound hF hT ht h hz
  have hc := List.all_eq_true.1 hT t ht
  unfold Value.okWide at hv
  cases hu : P.underlying t with
  | none => rw [hu] at hc; cases hc
  | some dd =>
    rw [hu] at hc hv
    have one : ∀ (hag : tagg P t = some false) (hone : v.cells = #[v]), ∃ x, CR w F x v ∧ FitsV P t x := by
      intro hag hone
      rw [hone] at h1
      have hl : xs.length = 1 := by rw [← h1.1]; rfl
      obtain ⟨x, rfl⟩ := List.length_eq_one_iff.1 hl
      exact ⟨x, (h1.2 0 (by simp) (by simp)).2, fuel, [x], h2, .inr ⟨hag, rfl⟩⟩
    cases dd with
    | bool => exact one (by simp [tagg, hu]) (by unfold Cell.okWide at hv; rw [hu] at hv; simp only [Cell.ok, hu] at hv; cases v <;> first | rfl | exact hv.elim)
    | int i => exact one (by simp [tagg, hu]) (by unfold Cell.okWide at hv; rw [hu] at hv; simp only [Cell.ok, hu] at hv; cases v <;> first | rfl | exact hv.elim)
    | string => exact one (by simp [tagg, hu]) (by unfold Cell.okWide at hv; rw [hu] at hv; simp only [Cell.ok, hu] at hv; cases v <;> first | rfl | exact hv.elim)
    | slice e => exact one (by simp [tagg, hu]) (by unfold Cell.okWide at hv; rw [hu] at hv; simp only [Cell.ok, hu] at hv; cases v <;> first | rfl | exact hv.elim)
    | struct fs =>
      obtain ⟨cs, rfl, hcs, _⟩ := hv
      refine ⟨.agg xs, .agg xs cs (by have := h1.1; simpa [Value.cells] using this) (fun i hi => ?_) (fun i hi hi' => ?_), fuel, xs, h2, .inl ⟨by simp [tagg, hu], rfl⟩⟩
      · have := (h1.2 i (by rw [← h1.1]; simpa [Value.cells] using hi) (by simpa [Value.cells] using hi)).1
        simpa [Value.cells] using this
      · have := (h1.2 i hi (by simpa [Value.cells] using hi')).2
        simpa [Value.cells] using this
    | _ => cases hc
end

end Go.Proofs.YticoldgiebmmgaaGreatDoor.Abs

/- From the interpreter's word to a law. -/
namespace Go.Proofs.YticoldgiebmmgaaGreatDoor.Abs
set_option linter.all false
set_option linter.unusedVariables false
open Go.RowKit

variable {H : Type} {enc : TypeId × Value → H} {P : Program} {W : World}

def FitsAll (P : Program) : List TypeId → List AV → Prop
  | [], xs => xs = []
  | t :: ts, xs => ∃ x r, xs = x :: r ∧ FitsV P t x ∧ FitsAll P ts r

theorem args_read {T : List TypeId} (hT : closedB P T = true) {base : Nat} : ∀ {ts : List TypeId} {vs : List Value} {ds : List (DataW H)} {ps : List MemPlace}, (∀ t ∈ ts, t ∈ T) →
    DataW.TrodAll enc P W 0 (fun _ => true) true ts vs ds ps → (∀ (j : Nat) t v, ts[j]? = some t → vs[j]? = some v → Value.okWide P W .any base t v) → (∀ n ∈ DataW.weightsEach P ts ds, n ≤ reachBytes) →
    ∃ xs, xs.length = vs.length ∧ FitsAll P ts xs ∧ ∀ i (h : i < xs.length) (h' : i < vs.length), CR W ⟨allF W, fun _ => none⟩ xs[i] vs[i] := by
  intro ts
  induction ts with
  | nil =>
    intro vs ds ps _ h _ _
    cases vs with
    | nil => exact ⟨[], rfl, rfl, fun i h => absurd h (by simp)⟩
    | cons v vs => simp [DataW.TrodAll] at h
  | cons t ts ih =>
    intro vs ds ps hts h hok hz
    obtain ⟨v, vs', d, ds', p, q, rfl, rfl, rfl, h1, h2⟩ := ChangeShapes.trodAll_cons h
    simp only [DataW.weightsEach, List.mem_append] at hz
    obtain ⟨x, hx1, hx2⟩ := arg_sound (F := ⟨allF W, fun _ => none⟩) (fun b o v h => allF_lt h) hT (hts t List.mem_cons_self) (hok 0 t v rfl rfl) h1 (fun n hn => hz n (.inl hn))
    obtain ⟨xs, h3, h4, h5⟩ := ih (fun t ht => hts t (List.mem_cons_of_mem _ ht)) h2 (fun j t' v' hj hv => hok (j + 1) t' v' (by simpa using hj) (by simpa using hv)) (fun n hn => hz n (.inr hn))
    refine ⟨x :: xs, by simp [h3], ⟨x, xs, rfl, hx2, h4⟩, fun i hi hi' => ?_⟩
    cases i with
    | zero => exact hx1
    | succ i => exact h5 i (by simpa using hi) (by simpa using hi')

theorem trodAll_below (hl : laidOutB P = true) {W' : World} (hb : Below W.heap.size W W') : ∀ {ts : List TypeId} {vs : List Value} {ds : List (DataW H)} {ps : List MemPlace}, (ts.all fun t => P.readableRec t && decide (t < P.types.size)) = true →
    DataW.TrodAll enc P W 0 (fun _ => true) true ts vs ds ps → (∀ x ∈ ps, x.block < W.heap.size) → DataW.TrodAll enc P W' 0 (fun b => decide (b < W.heap.size)) true ts vs ds ps := by
  intro ts
  induction ts with
  | nil =>
    intro vs ds ps _ h _
    cases vs <;> cases ds <;> first | exact h | simp [DataW.TrodAll] at h
  | cons t ts ih =>
    intro vs ds ps hts h hlt
    obtain ⟨v, vs', d, ds', p, q, rfl, rfl, rfl, h1, h2⟩ := ChangeShapes.trodAll_cons h
    rw [List.all_cons, Bool.and_eq_true] at hts
    obtain ⟨ht, hts⟩ := hts
    simp only [Bool.and_eq_true, decide_eq_true_eq] at ht
    exact ⟨p, q, RowKit.Below.trod hl ht.1 ht.2 h1 hb (fun x hx => hlt x (List.mem_append_left _ hx)), ih hts h2 (fun x hx => hlt x (List.mem_append_right _ hx)), rfl⟩

theorem law_calls {sg : FuncId → Nat → Nat} {fns : FuncId → Option AFunc} (hfn : FnsOk P sg fns) (hm : P.follows .mixedOrders = true) {T : List TypeId} (hT : closedB P T = true) {f : FuncId} {fn : Func} (hf : P.funcs[f]? = some fn)
    {base : Nat} {args : Array Value} {ds : List (DataW H)} {ps : List MemPlace} (hts : ∀ t ∈ fn.params.toList, t ∈ T) (hA : DataW.TrodAll enc P W 0 (fun _ => true) true fn.params.toList args.toList ds ps)
    (hok : ∀ (j : Nat) t v, fn.params[j]? = some t → args[j]? = some v → Value.okWide P W .any base t v) (hz : (DataW.weightsEach P (fn.params.toList ++ []) (ds ++ [])).all (· ≤ reachBytes) = true) {Γ : Nat → Option (List AV)} (hΓ : ∀ g xs, Γ g = some xs → CR W ⟨allF W, fun _ => none⟩ (.eptr xs) (.pointer (some ⟨g, 0, none⟩)))
    (hlaw : ∀ xs, FitsAll P fn.params.toList xs → CW fns f xs ⟨0, [], Γ⟩ fun q => q.1 = .bool true) :
    Calls P f args W fun e W' => e = .returned (.bool true) ∧ Below W.heap.size W W' := by
  obtain ⟨xs, h1, h2, h3⟩ := args_read hT hts hA (fun j t v hj hv => hok j t v (by simpa using hj) (by simpa using hv)) (by simpa using hz)
  obtain ⟨m, hcall⟩ := hlaw xs h2
  cases m with
  | zero => exact hcall.elim
  | succ m =>
    obtain ⟨ihc, ihl⟩ := calls_sound hfn hm m
    have ihl' : LoopOk P sg (loopN fns m) := fun hc _ _ hl _ _ _ h => wp_loop_rounds m (ihl hc hl h)
    simp only [callN, Abs.T.All_on] at hcall
    obtain ⟨af, haf, hcall⟩ := hcall
    split at hcall
    · rename_i hle
      obtain ⟨fn', hf', _, ⟨hs, hpf⟩, hxo⟩ := hfn f af haf
      have hsz : args.size = xs.length := by rw [h1]; simp
      refine (entered_sound ihc ihl' hm hf' hpf hxo hle hcall (w := W) (G := ⟨⟨allF W, fun _ => none⟩, fun _ => none, fun _ => .free⟩) hsz (fun i hi hi' => ?_) ⟨fun i ob hi => absurd hi (by simp [Abs.H.get, Option.join]), fun _ _ => rfl, hΓ⟩ (fun b hb => by cases hb) (allF_new W)).mono ?_
      · have := h3 i hi (by simpa using hi')
        simp only [Array.getElem_toList] at this
        exact ⟨TC_of_CR this, CR_plain this⟩
      · intro e W' ⟨r, hr, v, F', ω', he, hk, _, _, _, hT, _, _⟩
        rw [hr] at hT
        have hv := TR_bool hT
        subst hv
        exact ⟨he, hk.os, hk.tape, hk.output, hk.size, fun k hk' => hk.block k hk' (fun hi => by cases hi)⟩
    · exact hcall.elim

end Go.Proofs.YticoldgiebmmgaaGreatDoor.Abs

/- Bytes. -/
namespace Go.Proofs.YticoldgiebmmgaaGreatDoor.Abs
set_option linter.all false
set_option linter.unusedVariables false

def bAV (e : Nat) : Option (List UInt8) → AV
  | none => .slice .nil 0 1 []
  | some l => .slice .frz e 1 (byteCells l)
def bl : Option (List UInt8) → List UInt8
  | none => []
  | some l => l

theorem bytesOf_cells (l : List UInt8) : bytesOf (byteCells l) = some l := by
  induction l with
  | nil => rfl
  | cons b l ih =>
    have : byteCells (b :: l) = .int .u8 b.toNat :: byteCells l := rfl
    rw [this]; simp [bytesOf, ih]

theorem byteCells_length (l : List UInt8) : (byteCells l).length = l.length := by simp [byteCells]
theorem byteCells_append (l m : List UInt8) : byteCells (l ++ m) = byteCells l ++ byteCells m := by simp [byteCells]
theorem byteCells_cons (b : UInt8) (l : List UInt8) : byteCells (b :: l) = .int .u8 b.toNat :: byteCells l := rfl
/-! ### Small steps, for the simplifier -/
@[simp] theorem ev_gvV_bool (b : Bool) : gvV (.bool b : AV) = (.bool b : AV) := rfl
@[simp] theorem ev_hdV_bool (b : Bool) : hdV (.bool b : AV) = (.bool b : AV) := rfl
@[simp] theorem ev_lfV_bool (b : Bool) : lfV (.bool b : AV) = (.bool b : AV) := rfl
@[simp] theorem ev_cls_bool (b : Bool) (f : Cls → Cls) : AV.cls f (.bool b : AV) = (.bool b : AV) := rfl
@[simp] theorem ev_several_bool (b : Bool) : (.bool b : AV).several = false := rfl
@[simp] theorem ev_plain_bool (b : Bool) : (.bool b : AV).plain = true := rfl
@[simp] theorem ev_cells_bool (b : Bool) : (.bool b : AV).cells = [(.bool b : AV)] := rfl
@[simp] theorem ev_kill_bool (b : Bool) (t0 : Nat) : AV.kill t0 (.bool b : AV) = (.bool b : AV) := rfl
@[simp] theorem ev_gvV_int (k : IntKind) (n : Int) : gvV (.int k n : AV) = (.int k n : AV) := rfl
@[simp] theorem ev_hdV_int (k : IntKind) (n : Int) : hdV (.int k n : AV) = (.int k n : AV) := rfl
@[simp] theorem ev_lfV_int (k : IntKind) (n : Int) : lfV (.int k n : AV) = (.int k n : AV) := rfl
@[simp] theorem ev_cls_int (k : IntKind) (n : Int) (f : Cls → Cls) : AV.cls f (.int k n : AV) = (.int k n : AV) := rfl
@[simp] theorem ev_several_int (k : IntKind) (n : Int) : (.int k n : AV).several = false := rfl
@[simp] theorem ev_plain_int (k : IntKind) (n : Int) : (.int k n : AV).plain = true := rfl
@[simp] theorem ev_cells_int (k : IntKind) (n : Int) : (.int k n : AV).cells = [(.int k n : AV)] := rfl
@[simp] theorem ev_kill_int (k : IntKind) (n : Int) (t0 : Nat) : AV.kill t0 (.int k n : AV) = (.int k n : AV) := rfl
@[simp] theorem ev_cpV_int (k : IntKind) (n : Int) (m : Mode) : cpV m (.int k n : AV) = (.int k n : AV) := by cases m <;> rfl
@[simp] theorem ev_cpS_int (k : IntKind) (n : Int) (m : Mode) : cpS m (.int k n : AV) = (.int k n : AV) := by cases m <;> rfl
@[simp] theorem ev_gvV_str (s : List UInt8) : gvV (.str s : AV) = (.str s : AV) := rfl
@[simp] theorem ev_hdV_str (s : List UInt8) : hdV (.str s : AV) = (.str s : AV) := rfl
@[simp] theorem ev_lfV_str (s : List UInt8) : lfV (.str s : AV) = (.str s : AV) := rfl
@[simp] theorem ev_cls_str (s : List UInt8) (f : Cls → Cls) : AV.cls f (.str s : AV) = (.str s : AV) := rfl
@[simp] theorem ev_several_str (s : List UInt8) : (.str s : AV).several = false := rfl
@[simp] theorem ev_plain_str (s : List UInt8) : (.str s : AV).plain = true := rfl
@[simp] theorem ev_cells_str (s : List UInt8) : (.str s : AV).cells = [(.str s : AV)] := rfl
@[simp] theorem ev_kill_str (s : List UInt8) (t0 : Nat) : AV.kill t0 (.str s : AV) = (.str s : AV) := rfl
@[simp] theorem ev_cpV_str (s : List UInt8) (m : Mode) : cpV m (.str s : AV) = (.str s : AV) := by cases m <;> rfl
@[simp] theorem ev_cpS_str (s : List UInt8) (m : Mode) : cpS m (.str s : AV) = (.str s : AV) := by cases m <;> rfl
@[simp] theorem ev_gvV_flt (k : FloatKind) (n : Nat) : gvV (.flt k n : AV) = (.flt k n : AV) := rfl
@[simp] theorem ev_hdV_flt (k : FloatKind) (n : Nat) : hdV (.flt k n : AV) = (.flt k n : AV) := rfl
@[simp] theorem ev_lfV_flt (k : FloatKind) (n : Nat) : lfV (.flt k n : AV) = (.flt k n : AV) := rfl
@[simp] theorem ev_cls_flt (k : FloatKind) (n : Nat) (f : Cls → Cls) : AV.cls f (.flt k n : AV) = (.flt k n : AV) := rfl
@[simp] theorem ev_several_flt (k : FloatKind) (n : Nat) : (.flt k n : AV).several = false := rfl
@[simp] theorem ev_plain_flt (k : FloatKind) (n : Nat) : (.flt k n : AV).plain = true := rfl
@[simp] theorem ev_cells_flt (k : FloatKind) (n : Nat) : (.flt k n : AV).cells = [(.flt k n : AV)] := rfl
@[simp] theorem ev_kill_flt (k : FloatKind) (n : Nat) (t0 : Nat) : AV.kill t0 (.flt k n : AV) = (.flt k n : AV) := rfl
@[simp] theorem ev_gvV_agg (xs : List AV) : gvV (.agg xs : AV) = (.agg xs : AV) := rfl
@[simp] theorem ev_hdV_agg (xs : List AV) : hdV (.agg xs : AV) = (.agg xs : AV) := rfl
@[simp] theorem ev_lfV_agg (xs : List AV) : lfV (.agg xs : AV) = (.agg xs : AV) := rfl
@[simp] theorem ev_cls_agg (xs : List AV) (f : Cls → Cls) : AV.cls f (.agg xs : AV) = (.agg xs : AV) := rfl
@[simp] theorem ev_several_agg (xs : List AV) : (.agg xs : AV).several = false := rfl
@[simp] theorem ev_plain_agg (xs : List AV) : (.agg xs : AV).plain = true := rfl
@[simp] theorem ev_cells_agg (xs : List AV) : (.agg xs : AV).cells = xs := rfl
@[simp] theorem ev_kill_agg (xs : List AV) (t0 : Nat) : AV.kill t0 (.agg xs : AV) = (.agg xs : AV) := rfl
@[simp] theorem ev_gvV_ptr (s : K) (off : Nat) : gvV (.ptr s off : AV) = (.ptr s off : AV) := rfl
@[simp] theorem ev_hdV_ptr (s : K) (off : Nat) : hdV (.ptr s off : AV) = (.ptr s off : AV) := rfl
@[simp] theorem ev_lfV_ptr (s : K) (off : Nat) : lfV (.ptr s off : AV) = (.ptr s off : AV) := rfl
@[simp] theorem ev_cls_ptr (s : K) (off : Nat) (f : Cls → Cls) : AV.cls f (.ptr s off : AV) = (.ptr s off : AV) := rfl
@[simp] theorem ev_several_ptr (s : K) (off : Nat) : (.ptr s off : AV).several = false := rfl
@[simp] theorem ev_plain_ptr (s : Nat) (off : Nat) : (.ptr (.loc s) off : AV).plain = false := rfl
@[simp] theorem ev_plain_ptro (s : Nat) (off : Nat) : (.ptr (.obj s) off : AV).plain = true := rfl
@[simp] theorem ev_cells_ptr (s : K) (off : Nat) : (.ptr s off : AV).cells = [(.ptr s off : AV)] := rfl
@[simp] theorem ev_kill_ptr (s : Nat) (off : Nat) (t0 : Nat) : AV.kill t0 (.ptr (.loc s) off : AV) = if s = t0 then .undef else .ptr (.loc s) off := rfl
@[simp] theorem ev_kill_ptro (s : Nat) (off : Nat) (t0 : Nat) : AV.kill t0 (.ptr (.obj s) off : AV) = .ptr (.obj s) off := rfl
@[simp] theorem ev_gvV_eptr (xs : List AV) : gvV (.eptr xs : AV) = (.eptr xs : AV) := rfl
@[simp] theorem ev_hdV_eptr (xs : List AV) : hdV (.eptr xs : AV) = (.eptr xs : AV) := rfl
@[simp] theorem ev_lfV_eptr (xs : List AV) : lfV (.eptr xs : AV) = (.eptr xs : AV) := rfl
@[simp] theorem ev_cls_eptr (xs : List AV) (f : Cls → Cls) : AV.cls f (.eptr xs : AV) = (.eptr xs : AV) := rfl
@[simp] theorem ev_several_eptr (xs : List AV) : (.eptr xs : AV).several = false := rfl
@[simp] theorem ev_plain_eptr (xs : List AV) : (.eptr xs : AV).plain = true := rfl
@[simp] theorem ev_cells_eptr (xs : List AV) : (.eptr xs : AV).cells = [(.eptr xs : AV)] := rfl
@[simp] theorem ev_kill_eptr (xs : List AV) (t0 : Nat) : AV.kill t0 (.eptr xs : AV) = (.eptr xs : AV) := rfl
@[simp] theorem ev_gvV_nilptr  : gvV (.nilptr  : AV) = (.nilptr  : AV) := rfl
@[simp] theorem ev_hdV_nilptr  : hdV (.nilptr  : AV) = (.nilptr  : AV) := rfl
@[simp] theorem ev_lfV_nilptr  : lfV (.nilptr  : AV) = (.nilptr  : AV) := rfl
@[simp] theorem ev_cls_nilptr  (f : Cls → Cls) : AV.cls f (.nilptr  : AV) = (.nilptr  : AV) := rfl
@[simp] theorem ev_several_nilptr  : (.nilptr  : AV).several = false := rfl
@[simp] theorem ev_plain_nilptr  : (.nilptr  : AV).plain = true := rfl
@[simp] theorem ev_cells_nilptr  : (.nilptr  : AV).cells = [(.nilptr  : AV)] := rfl
@[simp] theorem ev_kill_nilptr  (t0 : Nat) : AV.kill t0 (.nilptr  : AV) = (.nilptr  : AV) := rfl
@[simp] theorem ev_gvV_iface (t : TypeId) (v : AV) : gvV (.iface t v : AV) = (.iface t v : AV) := rfl
@[simp] theorem ev_hdV_iface (t : TypeId) (v : AV) : hdV (.iface t v : AV) = (.iface t v : AV) := rfl
@[simp] theorem ev_lfV_iface (t : TypeId) (v : AV) : lfV (.iface t v : AV) = (.iface t v : AV) := rfl
@[simp] theorem ev_cls_iface (t : TypeId) (v : AV) (f : Cls → Cls) : AV.cls f (.iface t v : AV) = (.iface t v : AV) := rfl
@[simp] theorem ev_several_iface (t : TypeId) (v : AV) : (.iface t v : AV).several = false := rfl
@[simp] theorem ev_plain_iface (t : TypeId) (v : AV) : (.iface t v : AV).plain = true := rfl
@[simp] theorem ev_cells_iface (t : TypeId) (v : AV) : (.iface t v : AV).cells = [(.iface t v : AV)] := rfl
@[simp] theorem ev_kill_iface (t : TypeId) (v : AV) (t0 : Nat) : AV.kill t0 (.iface t v : AV) = (.iface t v : AV) := rfl
@[simp] theorem ev_gvV_nilI  : gvV (.nilI  : AV) = (.nilI  : AV) := rfl
@[simp] theorem ev_hdV_nilI  : hdV (.nilI  : AV) = (.nilI  : AV) := rfl
@[simp] theorem ev_lfV_nilI  : lfV (.nilI  : AV) = (.nilI  : AV) := rfl
@[simp] theorem ev_cls_nilI  (f : Cls → Cls) : AV.cls f (.nilI  : AV) = (.nilI  : AV) := rfl
@[simp] theorem ev_several_nilI  : (.nilI  : AV).several = false := rfl
@[simp] theorem ev_plain_nilI  : (.nilI  : AV).plain = true := rfl
@[simp] theorem ev_cells_nilI  : (.nilI  : AV).cells = [(.nilI  : AV)] := rfl
@[simp] theorem ev_kill_nilI  (t0 : Nat) : AV.kill t0 (.nilI  : AV) = (.nilI  : AV) := rfl
@[simp] theorem ev_gvV_fn (f : FuncId) : gvV (.fn f : AV) = (.fn f : AV) := rfl
@[simp] theorem ev_hdV_fn (f : FuncId) : hdV (.fn f : AV) = (.fn f : AV) := rfl
@[simp] theorem ev_lfV_fn (f : FuncId) : lfV (.fn f : AV) = (.fn f : AV) := rfl
@[simp] theorem ev_cls_fn (f : FuncId) (g : Cls → Cls) : AV.cls g (.fn f : AV) = (.fn f : AV) := rfl
@[simp] theorem ev_several_fn (f : FuncId) : (.fn f : AV).several = false := rfl
@[simp] theorem ev_plain_fn (f : FuncId) : (.fn f : AV).plain = true := rfl
@[simp] theorem ev_cells_fn (f : FuncId) : (.fn f : AV).cells = [(.fn f : AV)] := rfl
@[simp] theorem ev_kill_fn (f : FuncId) (t0 : Nat) : AV.kill t0 (.fn f : AV) = (.fn f : AV) := rfl
@[simp] theorem ev_gvV_gl (g : Nat) : gvV (.gl g : AV) = (.gl g : AV) := rfl
@[simp] theorem ev_hdV_gl (g : Nat) : hdV (.gl g : AV) = (.gl g : AV) := rfl
@[simp] theorem ev_lfV_gl (g : Nat) : lfV (.gl g : AV) = (.gl g : AV) := rfl
@[simp] theorem ev_cls_gl (g : Nat) (f : Cls → Cls) : AV.cls f (.gl g : AV) = (.gl g : AV) := rfl
@[simp] theorem ev_several_gl (g : Nat) : (.gl g : AV).several = false := rfl
@[simp] theorem ev_plain_gl (g : Nat) : (.gl g : AV).plain = true := rfl
@[simp] theorem ev_cells_gl (g : Nat) : (.gl g : AV).cells = [(.gl g : AV)] := rfl
@[simp] theorem ev_kill_gl (g : Nat) (t0 : Nat) : AV.kill t0 (.gl g : AV) = (.gl g : AV) := rfl
@[simp] theorem ev_gvV_sen (b off : Nat) : gvV (.sen b off : AV) = (.sen b off : AV) := rfl
@[simp] theorem ev_hdV_sen (b off : Nat) : hdV (.sen b off : AV) = (.sen b off : AV) := rfl
@[simp] theorem ev_lfV_sen (b off : Nat) : lfV (.sen b off : AV) = (.sen b off : AV) := rfl
@[simp] theorem ev_cls_sen (b off : Nat) (f : Cls → Cls) : AV.cls f (.sen b off : AV) = (.sen b off : AV) := rfl
@[simp] theorem ev_several_sen (b off : Nat) : (.sen b off : AV).several = false := rfl
@[simp] theorem ev_plain_sen (b off : Nat) : (.sen b off : AV).plain = true := rfl
@[simp] theorem ev_cells_sen (b off : Nat) : (.sen b off : AV).cells = [(.sen b off : AV)] := rfl
@[simp] theorem ev_kill_sen (b off : Nat) (t0 : Nat) : AV.kill t0 (.sen b off : AV) = (.sen b off : AV) := rfl
@[simp] theorem ev_gvV_nilfn  : gvV (.nilfn  : AV) = (.nilfn  : AV) := rfl
@[simp] theorem ev_hdV_nilfn  : hdV (.nilfn  : AV) = (.nilfn  : AV) := rfl
@[simp] theorem ev_lfV_nilfn  : lfV (.nilfn  : AV) = (.nilfn  : AV) := rfl
@[simp] theorem ev_cls_nilfn  (f : Cls → Cls) : AV.cls f (.nilfn  : AV) = (.nilfn  : AV) := rfl
@[simp] theorem ev_several_nilfn  : (.nilfn  : AV).several = false := rfl
@[simp] theorem ev_plain_nilfn  : (.nilfn  : AV).plain = true := rfl
@[simp] theorem ev_cells_nilfn  : (.nilfn  : AV).cells = [(.nilfn  : AV)] := rfl
@[simp] theorem ev_kill_nilfn  (t0 : Nat) : AV.kill t0 (.nilfn  : AV) = (.nilfn  : AV) := rfl
@[simp] theorem ev_gvV_skipped  : gvV (.skipped  : AV) = (.skipped  : AV) := rfl
@[simp] theorem ev_hdV_skipped  : hdV (.skipped  : AV) = (.skipped  : AV) := rfl
@[simp] theorem ev_lfV_skipped  : lfV (.skipped  : AV) = (.skipped  : AV) := rfl
@[simp] theorem ev_cls_skipped  (f : Cls → Cls) : AV.cls f (.skipped  : AV) = (.skipped  : AV) := rfl
@[simp] theorem ev_several_skipped  : (.skipped  : AV).several = false := rfl
@[simp] theorem ev_plain_skipped  : (.skipped  : AV).plain = false := rfl
@[simp] theorem ev_cells_skipped  : (.skipped  : AV).cells = [(.skipped  : AV)] := rfl
@[simp] theorem ev_kill_skipped  (t0 : Nat) : AV.kill t0 (.skipped  : AV) = (.skipped  : AV) := rfl
@[simp] theorem ev_gvV_undef  : gvV (.undef  : AV) = (.undef  : AV) := rfl
@[simp] theorem ev_hdV_undef  : hdV (.undef  : AV) = (.undef  : AV) := rfl
@[simp] theorem ev_lfV_undef  : lfV (.undef  : AV) = (.undef  : AV) := rfl
@[simp] theorem ev_cls_undef  (f : Cls → Cls) : AV.cls f (.undef  : AV) = (.undef  : AV) := rfl
@[simp] theorem ev_several_undef  : (.undef  : AV).several = false := rfl
@[simp] theorem ev_plain_undef  : (.undef  : AV).plain = false := rfl
@[simp] theorem ev_cells_undef  : (.undef  : AV).cells = [(.undef  : AV)] := rfl
@[simp] theorem ev_kill_undef  (t0 : Nat) : AV.kill t0 (.undef  : AV) = (.undef  : AV) := rfl
@[simp] theorem ev_gvV_snil  (e sz : Nat) (xs : List AV) : gvV (.slice .nil e sz xs : AV) = (.slice .nil e sz xs : AV) := rfl
@[simp] theorem ev_hdV_snil  (e sz : Nat) (xs : List AV) : hdV (.slice .nil e sz xs : AV) = (.slice .nil e sz xs : AV) := rfl
@[simp] theorem ev_lfV_snil  (e sz : Nat) (xs : List AV) : lfV (.slice .nil e sz xs : AV) = (.slice .nil e sz xs : AV) := rfl
@[simp] theorem ev_several_snil  (e sz : Nat) (xs : List AV) : (.slice .nil e sz xs : AV).several = false := rfl
@[simp] theorem ev_plain_snil  (e sz : Nat) (xs : List AV) : (.slice .nil e sz xs : AV).plain = true := rfl
@[simp] theorem ev_cells_snil  (e sz : Nat) (xs : List AV) : (.slice .nil e sz xs : AV).cells = [(.slice .nil e sz xs : AV)] := rfl
@[simp] theorem ev_kill_snil  (e sz : Nat) (xs : List AV) (t0 : Nat) : AV.kill t0 (.slice .nil e sz xs : AV) = (.slice .nil e sz xs : AV) := rfl
@[simp] theorem ev_left_snil  (e sz : Nat) (xs : List AV) : AV.cls .left (.slice .nil e sz xs : AV) = (.slice .nil e sz xs : AV) := rfl
@[simp] theorem ev_cpV_snil_take  (e sz : Nat) (xs : List AV) : cpV .take (.slice .nil e sz xs : AV) = (.slice .nil e sz xs : AV) := rfl
@[simp] theorem ev_cpS_snil_take  (e sz : Nat) (xs : List AV) : cpS .take (.slice .nil e sz xs : AV) = (.slice .nil e sz xs : AV) := rfl
@[simp] theorem ev_cpV_snil_look  (e sz : Nat) (xs : List AV) : cpV .look (.slice .nil e sz xs : AV) = (.slice .nil e sz xs : AV) := rfl
@[simp] theorem ev_cpS_snil_look  (e sz : Nat) (xs : List AV) : cpS .look (.slice .nil e sz xs : AV) = (.slice .nil e sz xs : AV) := rfl
@[simp] theorem ev_cpV_snil_head  (e sz : Nat) (xs : List AV) : cpV .head (.slice .nil e sz xs : AV) = (.slice .nil e sz xs : AV) := rfl
@[simp] theorem ev_cpS_snil_head  (e sz : Nat) (xs : List AV) : cpS .head (.slice .nil e sz xs : AV) = (.slice .nil e sz xs : AV) := rfl
@[simp] theorem ev_gvV_sfrz  (e sz : Nat) (xs : List AV) : gvV (.slice .frz e sz xs : AV) = (.slice .frz e sz xs : AV) := rfl
@[simp] theorem ev_hdV_sfrz  (e sz : Nat) (xs : List AV) : hdV (.slice .frz e sz xs : AV) = (.slice .frz e sz xs : AV) := rfl
@[simp] theorem ev_lfV_sfrz  (e sz : Nat) (xs : List AV) : lfV (.slice .frz e sz xs : AV) = (.slice .frz e sz xs : AV) := rfl
@[simp] theorem ev_several_sfrz  (e sz : Nat) (xs : List AV) : (.slice .frz e sz xs : AV).several = false := rfl
@[simp] theorem ev_plain_sfrz  (e sz : Nat) (xs : List AV) : (.slice .frz e sz xs : AV).plain = true := rfl
@[simp] theorem ev_cells_sfrz  (e sz : Nat) (xs : List AV) : (.slice .frz e sz xs : AV).cells = [(.slice .frz e sz xs : AV)] := rfl
@[simp] theorem ev_kill_sfrz  (e sz : Nat) (xs : List AV) (t0 : Nat) : AV.kill t0 (.slice .frz e sz xs : AV) = (.slice .frz e sz xs : AV) := rfl
@[simp] theorem ev_left_sfrz  (e sz : Nat) (xs : List AV) : AV.cls .left (.slice .frz e sz xs : AV) = (.slice .frz e sz xs : AV) := rfl
@[simp] theorem ev_cpV_sfrz_take  (e sz : Nat) (xs : List AV) : cpV .take (.slice .frz e sz xs : AV) = (.slice .frz e sz xs : AV) := rfl
@[simp] theorem ev_cpS_sfrz_take  (e sz : Nat) (xs : List AV) : cpS .take (.slice .frz e sz xs : AV) = (.slice .frz e sz xs : AV) := rfl
@[simp] theorem ev_cpV_sfrz_look  (e sz : Nat) (xs : List AV) : cpV .look (.slice .frz e sz xs : AV) = (.slice .frz e sz xs : AV) := rfl
@[simp] theorem ev_cpS_sfrz_look  (e sz : Nat) (xs : List AV) : cpS .look (.slice .frz e sz xs : AV) = (.slice .frz e sz xs : AV) := rfl
@[simp] theorem ev_cpV_sfrz_head  (e sz : Nat) (xs : List AV) : cpV .head (.slice .frz e sz xs : AV) = (.slice .frz e sz xs : AV) := rfl
@[simp] theorem ev_cpS_sfrz_head  (e sz : Nat) (xs : List AV) : cpS .head (.slice .frz e sz xs : AV) = (.slice .frz e sz xs : AV) := rfl
@[simp] theorem ev_gvV_shdr  (e sz : Nat) (xs : List AV) : gvV (.slice .hdr e sz xs : AV) = (.slice .hdr e sz xs : AV) := rfl
@[simp] theorem ev_hdV_shdr  (e sz : Nat) (xs : List AV) : hdV (.slice .hdr e sz xs : AV) = (.slice .hdr e sz xs : AV) := rfl
@[simp] theorem ev_lfV_shdr  (e sz : Nat) (xs : List AV) : lfV (.slice .hdr e sz xs : AV) = (.slice .hdr e sz xs : AV) := rfl
@[simp] theorem ev_several_shdr  (e sz : Nat) (xs : List AV) : (.slice .hdr e sz xs : AV).several = false := rfl
@[simp] theorem ev_plain_shdr  (e sz : Nat) (xs : List AV) : (.slice .hdr e sz xs : AV).plain = true := rfl
@[simp] theorem ev_cells_shdr  (e sz : Nat) (xs : List AV) : (.slice .hdr e sz xs : AV).cells = [(.slice .hdr e sz xs : AV)] := rfl
@[simp] theorem ev_kill_shdr  (e sz : Nat) (xs : List AV) (t0 : Nat) : AV.kill t0 (.slice .hdr e sz xs : AV) = (.slice .hdr e sz xs : AV) := rfl
@[simp] theorem ev_left_shdr  (e sz : Nat) (xs : List AV) : AV.cls .left (.slice .hdr e sz xs : AV) = (.slice .hdr e sz xs : AV) := rfl
@[simp] theorem ev_cpV_shdr_take  (e sz : Nat) (xs : List AV) : cpV .take (.slice .hdr e sz xs : AV) = (.slice .hdr e sz xs : AV) := rfl
@[simp] theorem ev_cpS_shdr_take  (e sz : Nat) (xs : List AV) : cpS .take (.slice .hdr e sz xs : AV) = (.slice .hdr e sz xs : AV) := rfl
@[simp] theorem ev_cpV_shdr_look  (e sz : Nat) (xs : List AV) : cpV .look (.slice .hdr e sz xs : AV) = (.slice .hdr e sz xs : AV) := rfl
@[simp] theorem ev_cpS_shdr_look  (e sz : Nat) (xs : List AV) : cpS .look (.slice .hdr e sz xs : AV) = (.slice .hdr e sz xs : AV) := rfl
@[simp] theorem ev_cpV_shdr_head  (e sz : Nat) (xs : List AV) : cpV .head (.slice .hdr e sz xs : AV) = (.slice .hdr e sz xs : AV) := rfl
@[simp] theorem ev_cpS_shdr_head  (e sz : Nat) (xs : List AV) : cpS .head (.slice .hdr e sz xs : AV) = (.slice .hdr e sz xs : AV) := rfl
@[simp] theorem ev_gvV_sown (fr : Bool) (e sz : Nat) (xs : List AV) : gvV (.slice (.own fr) e sz xs : AV) = (.slice .frz e sz xs : AV) := rfl
@[simp] theorem ev_hdV_sown (fr : Bool) (e sz : Nat) (xs : List AV) : hdV (.slice (.own fr) e sz xs : AV) = (.slice .hdr e sz xs : AV) := rfl
@[simp] theorem ev_lfV_sown (fr : Bool) (e sz : Nat) (xs : List AV) : lfV (.slice (.own fr) e sz xs : AV) = (.slice .hdr e sz xs : AV) := rfl
@[simp] theorem ev_several_sown (fr : Bool) (e sz : Nat) (xs : List AV) : (.slice (.own fr) e sz xs : AV).several = false := rfl
@[simp] theorem ev_plain_sown (fr : Bool) (e sz : Nat) (xs : List AV) : (.slice (.own fr) e sz xs : AV).plain = true := rfl
@[simp] theorem ev_cells_sown (fr : Bool) (e sz : Nat) (xs : List AV) : (.slice (.own fr) e sz xs : AV).cells = [(.slice (.own fr) e sz xs : AV)] := rfl
@[simp] theorem ev_kill_sown (fr : Bool) (e sz : Nat) (xs : List AV) (t0 : Nat) : AV.kill t0 (.slice (.own fr) e sz xs : AV) = (.slice (.own fr) e sz xs : AV) := rfl
@[simp] theorem ev_left_sown (fr : Bool) (e sz : Nat) (xs : List AV) : AV.cls .left (.slice (.own fr) e sz xs : AV) = (.slice .hdr e sz xs : AV) := rfl
@[simp] theorem ev_cpV_sown_take (fr : Bool) (e sz : Nat) (xs : List AV) : cpV .take (.slice (.own fr) e sz xs : AV) = (.slice (.own fr) e sz xs : AV) := rfl
@[simp] theorem ev_cpS_sown_take (fr : Bool) (e sz : Nat) (xs : List AV) : cpS .take (.slice (.own fr) e sz xs : AV) = (.slice .hdr e sz xs : AV) := rfl
@[simp] theorem ev_cpV_sown_look (fr : Bool) (e sz : Nat) (xs : List AV) : cpV .look (.slice (.own fr) e sz xs : AV) = (.slice .frz e sz xs : AV) := rfl
@[simp] theorem ev_cpS_sown_look (fr : Bool) (e sz : Nat) (xs : List AV) : cpS .look (.slice (.own fr) e sz xs : AV) = (.slice (.own false) e sz xs : AV) := rfl
@[simp] theorem ev_cpV_sown_head (fr : Bool) (e sz : Nat) (xs : List AV) : cpV .head (.slice (.own fr) e sz xs : AV) = (.slice .hdr e sz xs : AV) := rfl
@[simp] theorem ev_cpS_sown_head (fr : Bool) (e sz : Nat) (xs : List AV) : cpS .head (.slice (.own fr) e sz xs : AV) = (.slice (.own fr) e sz xs : AV) := rfl
@[simp] theorem ev_gvV_hsl (i k e sz n : Nat) : gvV (.hsl i k e sz n : AV) = .hsl i k e sz n := rfl
@[simp] theorem ev_hdV_hsl (i k e sz n : Nat) : hdV (.hsl i k e sz n : AV) = .hsl i k e sz n := rfl
@[simp] theorem ev_lfV_hsl (i k e sz n : Nat) : lfV (.hsl i k e sz n : AV) = .hsl i k e sz n := rfl
@[simp] theorem ev_cls_hsl (i k e sz n : Nat) (f : Cls → Cls) : AV.cls f (.hsl i k e sz n : AV) = .hsl i k e sz n := rfl
@[simp] theorem ev_several_hsl (i k e sz n : Nat) : (.hsl i k e sz n : AV).several = false := rfl
@[simp] theorem ev_plain_hsl (i k e sz n : Nat) : (.hsl i k e sz n : AV).plain = true := rfl
@[simp] theorem ev_cells_hsl (i k e sz n : Nat) : (.hsl i k e sz n : AV).cells = [.hsl i k e sz n] := rfl
@[simp] theorem ev_kill_hsl (i k e sz n : Nat) (t0 : Nat) : AV.kill t0 (.hsl i k e sz n : AV) = .hsl i k e sz n := rfl
@[simp] theorem ev_cpV_hsl (i k e sz n : Nat) (m : Mode) : cpV m (.hsl i k e sz n : AV) = .hsl i k e sz n := by cases m <;> rfl
@[simp] theorem ev_cpS_hsl (i k e sz n : Nat) (m : Mode) : cpS m (.hsl i k e sz n : AV) = .hsl i k e sz n := by cases m <;> rfl
@[simp] theorem ev_gvV_tup (xs : List AV) : gvV (.tup xs) = (.tup xs) := rfl
@[simp] theorem ev_hdV_tup (xs : List AV) : hdV (.tup xs) = (.tup (xs.map (AV.cls .left))) := rfl
@[simp] theorem ev_lfV_tup (xs : List AV) : lfV (.tup xs) = (.tup (xs.map (AV.cls .left))) := rfl
@[simp] theorem ev_kill_tup (xs : List AV) (t0 : Nat) : AV.kill t0 (.tup xs) = .tup xs := rfl
@[simp] theorem ev_several_tup (xs : List AV) : (AV.tup xs).several = true := rfl
@[simp] theorem ev_plain_tup (xs : List AV) : (AV.tup xs).plain = false := rfl
@[simp] theorem ev_cpV_tup (xs : List AV) (m : Mode) : cpV m (.tup xs) = .tup xs := by cases m <;> rfl
@[simp] theorem ev_cpS_tup (xs : List AV) (m : Mode) : cpS m (.tup xs) = .tup (xs.map (AV.cls .left)) := by cases m <;> rfl
section
variable (e : Nat) (o : Option (List UInt8))
@[simp] theorem bAV_gv : gvV (bAV e o) = bAV e o := by cases o <;> rfl
@[simp] theorem bAV_lf : lfV (bAV e o) = bAV e o := by cases o <;> rfl
@[simp] theorem bAV_left : (bAV e o).cls .left = bAV e o := by cases o <;> rfl
@[simp] theorem bAV_cpV (m : Mode) : cpV m (bAV e o) = bAV e o := by cases o <;> cases m <;> rfl
@[simp] theorem bAV_cpS (m : Mode) : cpS m (bAV e o) = bAV e o := by cases o <;> cases m <;> rfl
@[simp] theorem bAV_plain : (bAV e o).plain = true := by cases o <;> rfl
@[simp] theorem bAV_cells : (bAV e o).cells = [bAV e o] := by cases o <;> rfl
@[simp] theorem bAV_kill (t : Nat) : (bAV e o).kill t = bAV e o := by cases o <;> rfl
@[simp] theorem bAV_str (h : H) : cvBS h (bAV e o) = some (.str (bl o)) := by cases o <;> simp [bAV, bl, cvBS, bytesOf, bytesOf_cells]
@[simp] theorem bAV_len : aLen false (bAV e o) = some (.int .i64 (bl o).length) := by cases o <;> simp [bAV, bl, aLen, byteCells]
@[simp] theorem bAV_lenV : lenV (bAV e o) = some ((bl o).length : Int) := by cases o <;> simp [bAV, bl, lenV, byteCells]
end
@[simp] theorem ev_len_str (s : List UInt8) : aLen true (.str s) = some (.int .i64 s.length) := rfl
@[simp] theorem ev_len_slice (c : Cls) (e sz : Nat) (xs : List AV) : aLen false (.slice c e sz xs) = some (.int .i64 ((xs.length / sz : Nat) : Int)) := rfl
@[simp] theorem ev_lenV_str (s : List UInt8) : lenV (.str s) = some (s.length : Int) := rfl
@[simp] theorem ev_lenV_slice (c : Cls) (e sz : Nat) (xs : List AV) : lenV (.slice c e sz xs) = some ((xs.length / sz : Nat) : Int) := rfl
@[simp] theorem ev_idx (k : IntKind) (n : Int) : aIdx (.int k n) = some n := rfl
@[simp] theorem ev_pk_true (a b : AV) : pkV (.bool true) a b = if a.several then none else some a := rfl
@[simp] theorem ev_pk_false (a b : AV) : pkV (.bool false) a b = if b.several then none else some b := rfl
@[simp] theorem ev_un_not (b : Bool) : aUn .not (.bool b) = some (.bool !b) := rfl
@[simp] theorem ev_un_neg (k : IntKind) (n : Int) : aUn .neg (.int k n) = some (.int k (k.wrap (0 - n))) := rfl
@[simp] theorem ev_fd_ptr (off : Nat) (s : K) (k : Nat) : fdV off (.ptr s k) = some (.ptr s (k + off)) := rfl
@[simp] theorem ev_fd_eptr (off : Nat) (ys : List AV) : fdV off (.eptr ys) = some (.eptr (ys.drop off)) := rfl
attribute [simp] obind_some obind_none onBool_true onBool_false onGuard_tt onGuard_tf onGuard_ft onGuard_ff onGuard_skipped goOn_normal goOn_ret goOn_exit blockEnd_normal blockEnd_exit blockEnd_ret byteCells_length

theorem fits_bytes {P : Program} {t e : TypeId} {fuel : Nat} {xs : List AV} (ht : P.underlying t = some (.slice e)) (he : P.underlying e = some (.int .u8)) (hc : P.cellsOf e = 1) (h : FitsC P fuel t xs) :
    ∃ o, xs = [bAV e o] ∧ (bl o).length ≤ reachBytes := by
  cases fuel with
  | zero => exact h.elim
  | succ k =>
    simp only [FitsC, ht] at h
    rcases h with rfl | ⟨rows, rfl, hl, hr⟩
    · exact ⟨none, rfl, by simp [bl]⟩
    · have : ∃ l : List UInt8, rows.flatten = byteCells l ∧ l.length = rows.length := by
        clear hl
        induction rows with
        | nil => exact ⟨[], rfl, rfl⟩
        | cons r rows ih =>
          obtain ⟨l, h1, h2⟩ := ih (fun r hr' => hr r (List.mem_cons_of_mem _ hr'))
          obtain ⟨_, h3⟩ := hr r List.mem_cons_self
          cases k with
          | zero => exact h3.elim
          | succ k =>
            simp only [FitsC, he] at h3
            obtain ⟨m, rfl, hm1, hm2⟩ := h3
            have hm1' : 0 ≤ m := hm1
            have hm2' : m ≤ 255 := hm2
            refine ⟨UInt8.ofNat m.toNat :: l, ?_, by simp [h2]⟩
            rw [List.flatten_cons, h1, byteCells_cons]
            have : ((UInt8.ofNat m.toNat).toNat : Int) = m := by
              rw [UInt8.toNat_ofNat']; omega
            rw [this]; rfl
      obtain ⟨l, h1, h2⟩ := this
      exact ⟨some l, by rw [h1, hc]; rfl, by simp only [bl]; omega⟩

theorem fits_int {P : Program} {t : TypeId} {k : IntKind} {fuel : Nat} {xs : List AV} (ht : P.underlying t = some (.int k)) (h : FitsC P fuel t xs) : ∃ n, xs = [.int k n] ∧ k.min ≤ n ∧ n ≤ k.max := by
  cases fuel with
  | zero => exact h.elim
  | succ m => simp only [FitsC, ht] at h; exact h
theorem fits_struct {P : Program} {t : TypeId} {fs : Array Field} {fuel : Nat} {xs : List AV} (ht : P.underlying t = some (.struct fs)) (h : FitsC P fuel t xs) : ∃ k, fuel = k + 1 ∧ fitsFields (FitsC P k) fs.toList xs := by
  cases fuel with
  | zero => exact h.elim
  | succ m => simp only [FitsC, ht] at h; exact ⟨m, rfl, h⟩

end Go.Proofs.YticoldgiebmmgaaGreatDoor.Abs

/- Evaluation step by step, forward, in a form that the simplifier goes through quickly: no step has what follows under a binder. -/
namespace Go.Proofs.YticoldgiebmmgaaGreatDoor.Abs
set_option linter.all false
set_option linter.unusedVariables false

def Run {α : Type} (x : Option α) (Q : α → Prop) : Prop := ∃ r, x = some r ∧ Q r

section
variable {α β : Type}
theorem Run_some' (a : α) (Q : α → Prop) : Run (some a) Q ↔ Q a := ⟨fun ⟨_, h, hq⟩ => by injection h with h; subst h; exact hq, fun h => ⟨_, rfl, h⟩⟩
theorem Run_obind (x : Option α) (f : α → Option β) (Q : β → Prop) : Run (obind x f) Q ↔ Run x fun a => Run (f a) Q := by
  constructor
  · intro ⟨r, h, hq⟩
    obtain ⟨a, h1, h2⟩ := obind_eq_some.1 h
    exact ⟨a, h1, r, h2, hq⟩
  · intro ⟨a, h1, r, h2, hq⟩
    exact ⟨r, obind_eq_some.2 ⟨a, h1, h2⟩, hq⟩
theorem Run.mono {x : Option α} {Q Q' : α → Prop} (h : Run x Q) (k : ∀ a, Q a → Q' a) : Run x Q' := by obtain ⟨r, h1, h2⟩ := h; exact ⟨r, h1, k r h2⟩
theorem Run_iff {x : Option α} {Q Q' : α → Prop} (k : ∀ a, Q a ↔ Q' a) : Run x Q ↔ Run x Q' := ⟨fun h => h.mono fun a => (k a).1, fun h => h.mono fun a => (k a).2⟩
end

inductive Fr where
  | sq (k : ACode)
  | bl (id : Nat)
  | ag (c : ACode)

def argsO : List (AX × Bool) → St → Option (List AV × St)
  | [], st => some ([], st)
  | (x, true) :: r, st => obind (pln (take st x).1) fun _ => obind (argsO r (take st x).2) fun q => some ((take st x).1 :: q.1, q.2)
  | (x, false) :: r, st => obind (pln (give st x).1) fun _ => obind (argsO r (give st x).2) fun q => some ((give st x).1 :: q.1, q.2)
def fillO : List (Nat × Nat × AX) → List AV → St → Option (List AV × St)
  | [], cs, st => some (cs, st)
  | (off, n, x) :: r, cs, st => obind (fillV cs off n (give st x).1) fun cs => fillO r cs (give st x).2
theorem argsK_eq {β : Type} : ∀ {as : List (AX × Bool)} {st : St} {k : List AV → St → T β}, argsK as st k = T.on (argsO as st) fun q => k q.1 q.2
  | [], st, k => rfl
  | (x, true) :: r, st, k => by
    simp only [argsK, argsO]
    cases pln (take st x).1 with
    | none => rfl
    | some u => simp only [T.on, obind_some]; rw [argsK_eq]; cases argsO r (take st x).2 <;> rfl
  | (x, false) :: r, st, k => by
    simp only [argsK, argsO]
    cases pln (give st x).1 with
    | none => rfl
    | some u => simp only [T.on, obind_some]; rw [argsK_eq]; cases argsO r (give st x).2 <;> rfl
theorem fillK_eq {β : Type} : ∀ {ps : List (Nat × Nat × AX)} {cs : List AV} {st : St} {k : List AV → St → T β}, fillK ps cs st k = T.on (fillO ps cs st) fun q => k q.1 q.2
  | [], cs, st, k => rfl
  | (off, n, x) :: r, cs, st, k => by
    simp only [fillK, fillO]
    cases fillV cs off n (give st x).1 with
    | none => rfl
    | some u => simp only [T.on, obind_some]; rw [fillK_eq]; rfl

def onC {α : Type} (x : Option α) (y : (α → Prop) → Prop) (K : α → Prop) : Prop :=
  match x with
  | some q => K q
  | none => y K

section
variable (fns : FuncId → Option AFunc) (Q : Ex × St → Prop)

def GoE : List Fr → Ex → St → Prop
  | [], e, st => Q (e, st)
  | .sq k :: s, .normal, st => Ev (fun m => xexec (callN fns m) (loopN fns m) k st) fun r => GoE s r.1 r.2
  | .sq _ :: s, .exit i, st => GoE s (.exit i) st
  | .sq _ :: s, .ret, st => GoE s .ret st
  | .bl _ :: s, .normal, st => GoE s .normal st
  | .bl id :: s, .exit i, st => GoE s (if i = id then .normal else .exit i) st
  | .bl _ :: s, .ret, st => GoE s .ret st
  | .ag c :: s, .normal, st => LoopR fns c st fun r => GoE s r.1 r.2
  | .ag _ :: s, .exit i, st => GoE s (.exit i) st
  | .ag _ :: s, .ret, st => GoE s .ret st

variable (s : List Fr)
def GoC (c : ACode) (st : St) : Prop := Ev (fun m => xexec (callN fns m) (loopN fns m) c st) fun r => GoE fns Q s r.1 r.2
def GoO (l : List AOper) (c : ACode) (st : St) : Prop := Ev (fun m => opsK (callN fns m) l st fun st => xexec (callN fns m) (loopN fns m) c st) fun r => GoE fns Q s r.1 r.2
def GV (x : Option AV) (d : Option Nat) (l : List AOper) (c : ACode) (st : St) : Prop := Run x fun v => GoO fns Q s l c (st.put d v)
def GL (x : Option (AV × St)) (d : Option Nat) (l : List AOper) (c : ACode) : Prop := Run x fun q => GoO fns Q s l c (q.2.put d q.1)
def GT (x : T (AV × St)) (d : Option Nat) (l : List AOper) (c : ACode) : Prop := x.All fun q => GoO fns Q s l c (q.2.put d q.1)
def GS (x : Option St) (d : Option Nat) (l : List AOper) (c : ACode) : Prop := Run x fun st => GoO fns Q s l c (st.put d .skipped)
def GR (x : Option AV) (t : Nat) (d : Option Nat) (l : List AOper) (c : ACode) (st : St) : Prop := Run x fun v => Run (match v with | .str b => some b | _ => none) fun b => GoO fns Q s l c ((st.box t (.iter b 0)).put d (.ptr (.loc t) 0))
def GK (x : Option AV) (f : FuncId) (acc : List AV) (d : Option Nat) (l : List AOper) (c : ACode) (st : St) : Prop :=
  onC x (fun K => CW fns f acc st.h.mask fun q => Run (noHeap st.h.n q) K) fun v => GoO fns Q s l c (st.put d v)
def GH (x : Option (AV × H)) (f : FuncId) (acc : List AV) (d : Option Nat) (l : List AOper) (c : ACode) (st : St) : Prop :=
  onC x (CW fns f acc st.h) fun q => GoO fns Q s l c (St.put ⟨st.s, st.b, q.2⟩ d q.1)
def GX (x : Option (AV × AV)) (t : Nat) (d : Option Nat) (l : List AOper) (c : ACode) (st : St) : Prop := Run x fun q => GoO fns Q s l c ((st.set t q.2).put d q.1)
def GG (v : AV) (w : Bool) (o : AOp) (d : Option Nat) (l : List AOper) (c : ACode) (st : St) : Prop :=
  Ev (fun m => (onGuard v w (fun _ => opK (callN fns m) o st fun v st => .ret (st.put d v)) (fun _ => .ret (st.put d .skipped))).bind fun st => opsK (callN fns m) l st fun st => xexec (callN fns m) (loopN fns m) c st) fun r => GoE fns Q s r.1 r.2
def GB (v : AV) (a b : ACode) (st : St) : Prop := Ev (fun m => onBool v (fun _ => xexec (callN fns m) (loopN fns m) a st) (fun _ => xexec (callN fns m) (loopN fns m) b st)) fun r => GoE fns Q s r.1 r.2
def GA (hc : Bool) (f : FuncId) (acc : List AV) (as : List (AX × Bool)) (d : Option Nat) (l : List AOper) (c : ACode) (st : St) : Prop :=
  Run (argsO as st) fun q => match hc with
    | false => GK fns Q s (callv fns f (acc ++ q.1) q.2.h.mask) f (acc ++ q.1) d l c q.2
    | true => GH fns Q s (callω fns f (acc ++ q.1) q.2.h) f (acc ++ q.1) d l c q.2
def GD (hc : Bool) (tbl : Option (List (TypeId × FuncId))) (xv : AV) (as : List (AX × Bool)) (d : Option Nat) (l : List AOper) (c : ACode) (st : St) : Prop :=
  Run (argsO as st) fun q => Run (dTarget tbl xv q.1) fun r => match hc with
    | false => GK fns Q s (callv fns r.1 r.2 q.2.h.mask) r.1 r.2 d l c q.2
    | true => GH fns Q s (callω fns r.1 r.2 q.2.h) r.1 r.2 d l c q.2
def mkB : Option (Nat × Nat) → List AV → AV
  | none, cs => .agg cs
  | some (e, sz), cs => .slice (.own true) e sz cs
def GF (m : Option (Nat × Nat)) (ps : List (Nat × Nat × AX)) (x : Option (List AV)) (d : Option Nat) (l : List AOper) (c : ACode) (st : St) : Prop :=
  Run x fun cs => Run (fillO ps cs st) fun q => GoO fns Q s l c (q.2.put d (mkB m q.1))
end

section
variable {fns : FuncId → Option AFunc} {Q : Ex × St → Prop} {s : List Fr} {l : List AOper} {c : ACode} {st : St} {d : Option Nat}

@[simp] theorem goE_nil {e : Ex} : GoE fns Q [] e st = Q (e, st) := id rfl
@[simp] theorem goE_sq_n {k : ACode} : GoE fns Q (.sq k :: s) .normal st = GoC fns Q s k st := id rfl
@[simp] theorem goE_sq_e {k : ACode} {i : Nat} : GoE fns Q (.sq k :: s) (.exit i) st = GoE fns Q s (.exit i) st := id rfl
@[simp] theorem goE_sq_r {k : ACode} : GoE fns Q (.sq k :: s) .ret st = GoE fns Q s .ret st := id rfl
@[simp] theorem goE_bl_n {i : Nat} : GoE fns Q (.bl i :: s) .normal st = GoE fns Q s .normal st := id rfl
@[simp] theorem goE_bl_e {i j : Nat} : GoE fns Q (.bl i :: s) (.exit j) st = GoE fns Q s (if j = i then .normal else .exit j) st := id rfl
@[simp] theorem goE_bl_r {i : Nat} : GoE fns Q (.bl i :: s) .ret st = GoE fns Q s .ret st := id rfl
@[simp] theorem goE_ag_n {k : ACode} : GoE fns Q (.ag k :: s) .normal st = LoopR fns k st fun r => GoE fns Q s r.1 r.2 := id rfl
@[simp] theorem goE_ag_e {k : ACode} {i : Nat} : GoE fns Q (.ag k :: s) (.exit i) st = GoE fns Q s (.exit i) st := id rfl
@[simp] theorem goE_ag_r {k : ACode} : GoE fns Q (.ag k :: s) .ret st = GoE fns Q s .ret st := id rfl

@[simp] theorem goC_skip : GoC fns Q s .skip st ↔ GoE fns Q s .normal st := Ev_ret _ _
@[simp] theorem goC_exit {i : Nat} : GoC fns Q s (.exit i) st ↔ GoE fns Q s (.exit i) st := Ev_ret _ _
@[simp] theorem goC_ret : GoC fns Q s .ret st ↔ GoE fns Q s .ret st := Ev_ret _ _
theorem goC_ops {k : ACode} : GoC fns Q s (.ops l k) st ↔ GoO fns Q s l k st := Iff.rfl
theorem Ev_iff {α : Type} {x : Nat → T α} {R R' : α → Prop} (k : ∀ a, R a ↔ R' a) : Ev x R ↔ Ev x R' := ⟨fun h => h.mono fun a => (k a).1, fun h => h.mono fun a => (k a).2⟩
theorem up_goOn (k : ACode) (r : Ex × St) : Up fun m => goOn r fun st => xexec (callN fns m) (loopN fns m) k st := by
  obtain ⟨e, st⟩ := r
  cases e <;> first | exact up_exec fns k st | exact fun _ _ _ _ h => h
theorem goC_seq {a k : ACode} : GoC fns Q s (.seq a k) st ↔ GoC fns Q (.sq k :: s) a st := by
  refine (Ev_bind (up_exec fns a st) (up_goOn k)).trans (Ev_iff fun ⟨e, st'⟩ => ?_)
  cases e <;> first | exact Iff.rfl | exact Ev_ret _ _
theorem goC_cond {x : AX} {a b : ACode} : GoC fns Q s (.cond x a b) st ↔ GB fns Q s (peek st x) a b st := Iff.rfl
theorem goC_block {i : Nat} {a : ACode} : GoC fns Q s (.block i a) st ↔ GoC fns Q (.bl i :: s) a st := by
  refine (Ev_bind (f := fun _ => blockEnd i) (up_exec fns a st) (fun _ _ _ _ _ h => h)).trans (Ev_iff fun ⟨e, st'⟩ => ?_)
  cases e <;> exact Ev_ret _ _
theorem goC_loop {a : ACode} : GoC fns Q s (.loop a) st ↔ LoopR fns a st fun r => GoE fns Q s r.1 r.2 := Iff.rfl
@[simp] theorem gB_t {a b : ACode} : GB fns Q s (.bool true) a b st ↔ GoC fns Q s a st := Iff.rfl
@[simp] theorem gB_f {a b : ACode} : GB fns Q s (.bool false) a b st ↔ GoC fns Q s b st := Iff.rfl

@[simp] theorem goO_nil : GoO fns Q s [] c st ↔ GoC fns Q s c st := Iff.rfl
@[simp] theorem gV_some {v : AV} : GV fns Q s (some v) d l c st ↔ GoO fns Q s l c (st.put d v) := Run_some' _ _
@[simp] theorem gL_some {q : AV × St} : GL fns Q s (some q) d l c ↔ GoO fns Q s l c (q.2.put d q.1) := Run_some' _ _
@[simp] theorem gT_ret {q : AV × St} : GT fns Q s (.ret q) d l c ↔ GoO fns Q s l c (q.2.put d q.1) := Iff.rfl
@[simp] theorem gS_some {st : St} : GS fns Q s (some st) d l c ↔ GoO fns Q s l c (st.put d .skipped) := Run_some' _ _
@[simp] theorem gR_some {b : List UInt8} {t : Nat} : GR fns Q s (some (.str b)) t d l c st ↔ GoO fns Q s l c ((st.box t (.iter b 0)).put d (.ptr (.loc t) 0)) := (Run_some' _ _).trans (Run_some' _ _)
@[simp] theorem gK_some {v : AV} {f : FuncId} {acc : List AV} : GK fns Q s (some v) f acc d l c st ↔ GoO fns Q s l c (st.put d v) := Iff.rfl
@[simp] theorem gH_some {q : AV × H} {f : FuncId} {acc : List AV} : GH fns Q s (some q) f acc d l c st ↔ GoO fns Q s l c (St.put ⟨st.s, st.b, q.2⟩ d q.1) := Iff.rfl
theorem gH_eq {f : FuncId} {acc : List AV} : GH fns Q s (callω fns f acc st.h) f acc d l c st ↔ CW fns f acc st.h fun q => GoO fns Q s l c (St.put ⟨st.s, st.b, q.2⟩ d q.1) := by
  unfold GH onC
  cases he : callω fns f acc st.h with
  | none => exact Iff.rfl
  | some q => exact (CW_det fns he (fun q => GoO fns Q s l c (St.put ⟨st.s, st.b, q.2⟩ d q.1))).symm
theorem gK_eq {f : FuncId} {acc : List AV} : GK fns Q s (callv fns f acc st.h.mask) f acc d l c st ↔ CW fns f acc st.h.mask fun q => GV fns Q s (noHeap st.h.n q) d l c st := by
  unfold GK onC
  cases he : callv fns f acc st.h.mask with
  | none => exact Iff.rfl
  | some v =>
    have h1 : CW fns f acc st.h.mask (fun q => noHeap st.h.n q = some v) := by
      have := (callv_spec fns).1 he
      simpa [H.mask, H.n] using this
    constructor
    · intro h2; exact Ev.mono h1 fun q hq => by rw [hq]; exact ⟨v, rfl, h2⟩
    · intro h2
      obtain ⟨q, h3, v', h4, h5⟩ := (h1.and fns h2).ex
      rw [h3] at h4; injection h4 with h4; subst h4; exact h5
@[simp] theorem gX_some {q : AV × AV} {t : Nat} : GX fns Q s (some q) t d l c st ↔ GoO fns Q s l c ((st.set t q.2).put d q.1) := Run_some' _ _

@[simp] theorem goO_guard {o : AOp} {j : Nat} {w : Bool} : GoO fns Q s (⟨o, d, some (j, w)⟩ :: l) c st ↔ GG fns Q s (st.s j) w o d l c st := Iff.rfl
theorem opK_step {o : AOp} : (Ev (fun m => (opK (callN fns m) o st fun v st => .ret (st.put d v)).bind fun st => opsK (callN fns m) l st fun st => xexec (callN fns m) (loopN fns m) c st) fun r => GoE fns Q s r.1 r.2) ↔ GoO fns Q s (⟨o, d, none⟩ :: l) c st := by
  have : ∀ m, ((opK (callN fns m) o st fun v st => .ret (st.put d v)).bind fun st => opsK (callN fns m) l st fun st => xexec (callN fns m) (loopN fns m) c st) = opsK (callN fns m) (⟨o, d, none⟩ :: l) st fun st => xexec (callN fns m) (loopN fns m) c st := fun m => by
    rw [← opK_bind (K := fun st => opsK (callN fns m) l st fun st => xexec (callN fns m) (loopN fns m) c st)]; rfl
  unfold Ev GoO Ev
  simp only [this]
@[simp] theorem gG_tt {o : AOp} : GG fns Q s (.bool true) true o d l c st ↔ GoO fns Q s (⟨o, d, none⟩ :: l) c st := opK_step
@[simp] theorem gG_ff {o : AOp} : GG fns Q s (.bool false) false o d l c st ↔ GoO fns Q s (⟨o, d, none⟩ :: l) c st := opK_step
@[simp] theorem gG_tf {o : AOp} : GG fns Q s (.bool true) false o d l c st ↔ GoO fns Q s l c (st.put d .skipped) := Iff.rfl
@[simp] theorem gG_ft {o : AOp} : GG fns Q s (.bool false) true o d l c st ↔ GoO fns Q s l c (st.put d .skipped) := Iff.rfl
@[simp] theorem gG_sk {o : AOp} {w : Bool} : GG fns Q s .skipped w o d l c st ↔ GoO fns Q s l c (st.put d .skipped) := Iff.rfl

/-! ### The operations -/
@[simp] theorem go_move {m : Mode} {x : AX} : GoO fns Q s (⟨.move m x, d, none⟩ :: l) c st ↔ GoO fns Q s l c ((copy m st x).2.put d (copy m st x).1) := Iff.rfl
@[simp] theorem go_assign {x : AX} : GoO fns Q s (⟨.assign x, d, none⟩ :: l) c st ↔ GoO fns Q s l c ((take st x).2.put d (take st x).1) := Iff.rfl
@[simp] theorem go_pick {x a b : AX} : GoO fns Q s (⟨.pick x a b, d, none⟩ :: l) c st ↔ GV fns Q s (pkV (peek st x) (give st a).1 (give (give st a).2 b).1) d l c (give (give st a).2 b).2 := Ev_on
@[simp] theorem go_newbox {t : Nat} {cs : List AV} : GoO fns Q s (⟨.newbox t cs, d, none⟩ :: l) c st ↔ GoO fns Q s l c ((st.box t (.cells cs)).put d (.ptr (.loc t) 0)) := Iff.rfl
@[simp] theorem go_newbox1 {t : Nat} {cs : List AV} : GoO fns Q s (⟨.newbox1 t cs, d, none⟩ :: l) c st ↔ st.b t = none ∧ GoO fns Q s l c ((⟨st.s, upd st.b t (some (.cells cs)), st.h⟩ : St).put d (.ptr (.loc t) 0)) := by
  refine Iff.trans (b := st.b t = none ∧ _) ?_ Iff.rfl
  unfold GoO
  simp only [opsK, opK]
  cases st.b t with
  | none => exact ⟨fun h => ⟨rfl, h⟩, fun h => h.2⟩
  | some o => exact ⟨fun ⟨_, h⟩ => h.elim, fun h => by cases h.1⟩
@[simp] theorem go_newobj {cs : List AV} : GoO fns Q s (⟨.newobj cs, d, none⟩ :: l) c st ↔ GoO fns Q s l c ((st.pushH (.cells cs)).put d (.ptr (.obj st.h.n) 0)) := Iff.rfl
theorem pln_on {v : AV} {P : Prop} : (∃ a, pln v = some a ∧ P) ↔ v.plain = true ∧ P := by
  unfold pln
  by_cases h : v.plain = true
  · rw [if_pos h]; exact ⟨fun ⟨_, _, k⟩ => ⟨h, k⟩, fun k => ⟨(), rfl, k.2⟩⟩
  · rw [if_neg h]; exact ⟨fun ⟨_, k, _⟩ => (by cases k), fun k => absurd k.1 h⟩
@[simp] theorem go_box {t : Nat} {x : AX} : GoO fns Q s (⟨.box t x, d, none⟩ :: l) c st ↔ (take st x).1.plain = true ∧ GoO fns Q s l c (((take st x).2.box t (.cells (take st x).1.cells)).put d (.ptr (.loc t) 0)) := Ev_on.trans pln_on
@[simp] theorem go_boxobj {x : AX} : GoO fns Q s (⟨.boxobj x, d, none⟩ :: l) c st ↔ (take st x).1.plain = true ∧ GoO fns Q s l c (((take st x).2.pushH (.cells (take st x).1.cells)).put d (.ptr (.obj (take st x).2.h.n) 0)) := Ev_on.trans pln_on
@[simp] theorem go_range {t : Nat} {x : AX} : GoO fns Q s (⟨.range t x, d, none⟩ :: l) c st ↔ GR fns Q s (cvSS (peek st x)) t d l c st := by
  refine Ev_on.trans (show _ ↔ ∃ v, _ from ?_)
  refine exists_congr fun v => and_congr_right fun _ => ?_
  cases v with
  | str b => exact ⟨fun h => ⟨b, rfl, h⟩, fun ⟨b', e, h⟩ => by injection e with e; subst e; exact h⟩
  | _ => exact ⟨fun ⟨_, h⟩ => h.elim, fun ⟨_, h, _⟩ => (by cases h)⟩
@[simp] theorem go_next {x : AX} : GoO fns Q s (⟨.next x, d, none⟩ :: l) c st ↔ GL fns Q s (nextV (peek st x) st) d l c := Ev_on
@[simp] theorem go_copyB {sz : Nat} {str : Bool} {x y : AX} : GoO fns Q s (⟨.copyB sz str x y, d, none⟩ :: l) c st ↔ GL fns Q s (cpRow sz str (give st x).1 (peek (give st x).2 y) (give st x).2) d l c := Ev_on
@[simp] theorem go_load {m : Mode} {a : Bool} {n : Nat} {x : AX} : GoO fns Q s (⟨.load m a n x, d, none⟩ :: l) c st ↔ GL fns Q s (ldV m a n (peek st x) st) d l c := Ev_on
@[simp] theorem go_store {n : Nat} {x y : AX} : GoO fns Q s (⟨.store n x y, d, none⟩ :: l) c st ↔ GS fns Q s (stV n (peek st x) (take st y).1 (take st y).2) d l c := Ev_on
@[simp] theorem go_nilCheck {x : AX} : GoO fns Q s (⟨.nilCheck x, d, none⟩ :: l) c st ↔ GV fns Q s (nnV (peek st x)) d l c st := Ev_on
@[simp] theorem go_bin {op : BinOp} {kd : Nat} {lit : Bool} {x y : AX} : GoO fns Q s (⟨.bin op kd lit x y, d, none⟩ :: l) c st ↔ GV fns Q s (aBin op kd lit (peek st x) (peek st y)) d l c st := Ev_on
@[simp] theorem go_un {op : UnOp} {x : AX} : GoO fns Q s (⟨.un op x, d, none⟩ :: l) c st ↔ GV fns Q s (aUn op (peek st x)) d l c st := Ev_on
@[simp] theorem go_convInt {k : IntKind} {x : AX} : GoO fns Q s (⟨.convInt k x, d, none⟩ :: l) c st ↔ GV fns Q s (cvInt k (peek st x)) d l c st := Ev_on
@[simp] theorem go_convBS {x : AX} : GoO fns Q s (⟨.convBS x, d, none⟩ :: l) c st ↔ GV fns Q s (cvBS (give st x).2.h (give st x).1) d l c (give st x).2 := Ev_on
@[simp] theorem go_mkIface {t : TypeId} {x : AX} : GoO fns Q s (⟨.mkIface t x, d, none⟩ :: l) c st ↔ GV fns Q s (mkI t (give st x).1) d l c (give st x).2 := Ev_on
@[simp] theorem go_sliceSl {sz : Nat} {x : AX} {lo hi : Option AX} : GoO fns Q s (⟨.sliceSl sz x lo hi, d, none⟩ :: l) c st ↔ GV fns Q s (slSl (give st x).2.h sz (give st x).1 (bound st lo (some 0)) (bound st hi (lenV (give st x).1))) d l c (give st x).2 := Ev_on
@[simp] theorem go_fieldAddr {off : Nat} {x : AX} : GoO fns Q s (⟨.fieldAddr off x, d, none⟩ :: l) c st ↔ GV fns Q s (fdV off (peek st x)) d l c st := Ev_on
@[simp] theorem go_indexAddr {sz : Nat} {x i : AX} : GoO fns Q s (⟨.indexAddr sz x i, d, none⟩ :: l) c st ↔ GV fns Q s (ixV sz (give st x).1 (peek st i)) d l c (give st x).2 := Ev_on
@[simp] theorem go_extract {t i : Nat} : GoO fns Q s (⟨.extract t i, d, none⟩ :: l) c st ↔ GX fns Q s (exV (st.s t) i) t d l c st := Ev_on
@[simp] theorem go_len {b : Bool} {x : AX} : GoO fns Q s (⟨.len b x, d, none⟩ :: l) c st ↔ GV fns Q s (aLen b (peek st x)) d l c st := Ev_on
@[simp] theorem go_append {e sz bytes : Nat} {str : Bool} {x y : AX} : GoO fns Q s (⟨.append e sz bytes str x y, d, none⟩ :: l) c st ↔ GV fns Q s (apV (take st x).2.h e sz bytes str (take st x).1 (peek st y)) d l c (take st x).2 := Ev_on
@[simp] theorem go_px {o : XOp} {as : List AX} : GoO fns Q s (⟨.px o as, d, none⟩ :: l) c st ↔ GV fns Q s (xV o st.h (as.map (peek st))) d l c st := Ev_on
@[simp] theorem xV_ixArr {n sz : Nat} {h : H} {p i : AV} : xV (.ixArr n sz) h [p, i] = iaV n sz h p i := id rfl
@[simp] theorem xV_slArr {n e sz : Nat} {h : H} {p i j : AV} : xV (.slArr n e sz) h [p, i, j] = saV n e sz h p i j := id rfl
@[simp] theorem xV_ixAgg {ag : Bool} {n m sz : Nat} {h : H} {p i : AV} : xV (.ixAgg ag n m sz) h [p, i] = igV ag n m sz p i := id rfl
@[simp] theorem xV_tassert {t : TypeId} {z x : AV} {ok : Bool} {h : H} : xV (.tassert t z ok) h [x] = taV t z ok x := id rfl
@[simp] theorem xV_tassertI {z x : AV} {ok : Bool} {ys ns : List TypeId} {h : H} : xV (.tassertI z ok ys ns) h [x] = tiV z ok ys ns x := id rfl
@[simp] theorem xV_minmax {mx : Bool} {x y : AV} {h : H} : xV (.minmax mx) h [x, y] = mmV mx x y := id rfl
@[simp] theorem xV_rStr {x : AV} {h : H} : xV .rStr h [x] = rsV x := id rfl
@[simp] theorem xV_idxB {x y : AV} {h : H} : xV .idxB h [x, y] = ibV h x y := id rfl
@[simp] theorem xV_fb {k : Nat} {x : AV} {h : H} : xV (.fb k) h [x] = fbV k x := id rfl
@[simp] theorem xV_eqArr {neg : Bool} {n : Nat} {k : IntKind} {x y : AV} {h : H} : xV (.eqArr neg n k) h [x, y] = eqaV neg n k x y := id rfl
@[simp] theorem ev_fb0 {b : Nat} : fbV 0 (.flt .f64 b) = some (.int .u64 (b : Int)) := id rfl
@[simp] theorem ev_fb1 {b : Int} : fbV 1 (.int .u64 b) = some (.flt .f64 b.toNat) := id rfl
@[simp] theorem ev_fb2 {b : Nat} : fbV 2 (.flt .f32 b) = some (.int .u32 (b : Int)) := id rfl
@[simp] theorem ev_fb3 {b : Int} : fbV 3 (.int .u32 b) = some (.flt .f32 b.toNat) := id rfl
@[simp] theorem ev_ia_ptr {n sz off : Nat} {h : H} {k : K} {kd : IntKind} {i : Int} : iaV n sz h (.ptr k off) (.int kd i) = if 0 ≤ i ∧ i < (n : Int) then some (.ptr k (off + i.toNat * sz)) else none := id rfl
@[simp] theorem ev_ia_eptr {n sz : Nat} {h : H} {ys : List AV} {kd : IntKind} {i : Int} : iaV n sz h (.eptr ys) (.int kd i) = if 0 ≤ i ∧ i < (n : Int) then some (.eptr (ys.drop (i.toNat * sz))) else none := id rfl
@[simp] theorem ev_ta {t u : TypeId} {z v : AV} {ok : Bool} : taV t z ok (.iface u v) = if u = t then some (taOk ok v) else if ok then some (.tup [z, .bool false]) else none := id rfl
@[simp] theorem ev_ta_nil {t : TypeId} {z : AV} {ok : Bool} : taV t z ok .nilI = if ok then some (.tup [z, .bool false]) else none := id rfl
@[simp] theorem taOk_t {v : AV} : taOk true v = .tup [v, .bool true] := id rfl
@[simp] theorem taOk_f {v : AV} : taOk false v = v := id rfl
attribute [simp] saV igV tiV mmV eqaV intsOf

theorem up_call1 {f : FuncId} {vs : List AV} {st : St} : Ev (fun m => (callN fns m f vs st.h.mask).bind fun q => T.on (noHeap st.h.n q) fun v => opsK (callN fns m) l (st.put d v) fun st => xexec (callN fns m) (loopN fns m) c st) (fun r => GoE fns Q s r.1 r.2) ↔
    CW fns f vs st.h.mask fun q => GV fns Q s (noHeap st.h.n q) d l c st := by
  refine (Ev_bind (up_call fns f vs _) (fun q => ?_)).trans (Ev_iff fun q => Ev_on)
  cases noHeap st.h.n q with
  | none => exact fun _ _ _ _ h => h
  | some v => exact up_ops fns l c (st.put d v)
@[simp] theorem go_call {f : FuncId} {as : List (AX × Bool)} : GoO fns Q s (⟨.call f as, d, none⟩ :: l) c st ↔ GA fns Q s false f [] as d l c st := by
  have h1 : ∀ m, (opsK (callN fns m) (⟨.call f as, d, none⟩ :: l) st fun st => xexec (callN fns m) (loopN fns m) c st) = T.on (argsO as st) fun q => (callN fns m f q.1 q.2.h.mask).bind fun r => T.on (noHeap q.2.h.n r) fun v => opsK (callN fns m) l (q.2.put d v) fun st => xexec (callN fns m) (loopN fns m) c st := fun m => argsK_eq
  unfold GoO Ev
  simp only [h1]
  refine Ev_on.trans (show _ ↔ ∃ q, _ from ?_)
  refine exists_congr fun q => and_congr_right fun _ => ?_
  exact up_call1.trans gK_eq.symm
@[simp] theorem go_hcall {f : FuncId} {as : List (AX × Bool)} : GoO fns Q s (⟨.hcall f as, d, none⟩ :: l) c st ↔ GA fns Q s true f [] as d l c st := by
  have h1 : ∀ m, (opsK (callN fns m) (⟨.hcall f as, d, none⟩ :: l) st fun st => xexec (callN fns m) (loopN fns m) c st) = T.on (argsO as st) fun q => (callN fns m f q.1 q.2.h).bind fun r => opsK (callN fns m) l (St.put ⟨q.2.s, q.2.b, r.2⟩ d r.1) fun st => xexec (callN fns m) (loopN fns m) c st := fun m => argsK_eq
  unfold GoO Ev
  simp only [h1]
  refine Ev_on.trans (show _ ↔ ∃ q, _ from ?_)
  refine exists_congr fun q => and_congr_right fun _ => ?_
  exact (Ev_bind (up_call fns f q.1 _) (fun r => up_ops fns l c _)).trans gH_eq.symm
@[simp] theorem gA_nil {f : FuncId} {acc : List AV} : GA fns Q s false f acc [] d l c st ↔ GK fns Q s (callv fns f acc st.h.mask) f acc d l c st := by
  refine (Run_some' _ _).trans ?_
  rw [List.append_nil]
@[simp] theorem gA_nilh {f : FuncId} {acc : List AV} : GA fns Q s true f acc [] d l c st ↔ GH fns Q s (callω fns f acc st.h) f acc d l c st := by
  refine (Run_some' _ _).trans ?_
  rw [List.append_nil]
theorem gA_cons {hc : Bool} {f : FuncId} {acc : List AV} {as : List (AX × Bool)} {v : AV} {st' : St} :
    (Run (obind (pln v) fun _ => obind (argsO as st') fun q => some (v :: q.1, q.2)) fun q => match hc with
      | false => GK fns Q s (callv fns f (acc ++ q.1) q.2.h.mask) f (acc ++ q.1) d l c q.2
      | true => GH fns Q s (callω fns f (acc ++ q.1) q.2.h) f (acc ++ q.1) d l c q.2) ↔ v.plain = true ∧ GA fns Q s hc f (acc ++ [v]) as d l c st' := by
  refine (Run_obind _ _ _).trans (pln_on.trans (and_congr_right fun _ => ?_))
  refine (Run_obind _ _ _).trans (Run_iff fun q => (Run_some' _ _).trans ?_)
  rw [List.append_assoc]; rfl
@[simp] theorem gA_t {hc : Bool} {f : FuncId} {acc : List AV} {x : AX} {as : List (AX × Bool)} : GA fns Q s hc f acc ((x, true) :: as) d l c st ↔ (take st x).1.plain = true ∧ GA fns Q s hc f (acc ++ [(take st x).1]) as d l c (take st x).2 := gA_cons
@[simp] theorem gA_g {hc : Bool} {f : FuncId} {acc : List AV} {x : AX} {as : List (AX × Bool)} : GA fns Q s hc f acc ((x, false) :: as) d l c st ↔ (give st x).1.plain = true ∧ GA fns Q s hc f (acc ++ [(give st x).1]) as d l c (give st x).2 := gA_cons

@[simp] theorem go_build {z : List AV} {ps : List (Nat × Nat × AX)} : GoO fns Q s (⟨.build z ps, d, none⟩ :: l) c st ↔ GF fns Q s none ps (some z) d l c st := by
  have h1 : ∀ m, (opsK (callN fns m) (⟨.build z ps, d, none⟩ :: l) st fun st => xexec (callN fns m) (loopN fns m) c st) = T.on (fillO ps z st) fun q => opsK (callN fns m) l (q.2.put d (.agg q.1)) fun st => xexec (callN fns m) (loopN fns m) c st := fun m => fillK_eq
  unfold GoO Ev
  simp only [h1]
  refine Ev_on.trans ?_
  exact ⟨fun h => ⟨z, rfl, h⟩, fun ⟨_, e, h⟩ => by cases e; exact h⟩
@[simp] theorem go_buildSl {e sz : Nat} {z : List AV} {ps : List (Nat × Nat × AX)} : GoO fns Q s (⟨.buildSl e sz z ps, d, none⟩ :: l) c st ↔ GF fns Q s (some (e, sz)) ps (some z) d l c st := by
  have h1 : ∀ m, (opsK (callN fns m) (⟨.buildSl e sz z ps, d, none⟩ :: l) st fun st => xexec (callN fns m) (loopN fns m) c st) = T.on (fillO ps z st) fun q => opsK (callN fns m) l (q.2.put d (.slice (.own true) e sz q.1)) fun st => xexec (callN fns m) (loopN fns m) c st := fun m => fillK_eq
  unfold GoO Ev
  simp only [h1]
  refine Ev_on.trans ?_
  exact ⟨fun h => ⟨z, rfl, h⟩, fun ⟨_, e, h⟩ => by cases e; exact h⟩
@[simp] theorem gF_nil {m : Option (Nat × Nat)} {cs : List AV} : GF fns Q s m [] (some cs) d l c st ↔ GoO fns Q s l c (st.put d (mkB m cs)) := (Run_some' _ _).trans (Run_some' _ _)
@[simp] theorem gF_cons {m : Option (Nat × Nat)} {off n : Nat} {x : AX} {ps : List (Nat × Nat × AX)} {cs : List AV} : GF fns Q s m ((off, n, x) :: ps) (some cs) d l c st ↔ GF fns Q s m ps (fillV cs off n (give st x).1) d l c (give st x).2 :=
  (Run_some' _ _).trans (Run_obind _ _ _)
@[simp] theorem mkB_none {cs : List AV} : mkB none cs = .agg cs := id rfl
@[simp] theorem mkB_some {e sz : Nat} {cs : List AV} : mkB (some (e, sz)) cs = .slice (.own true) e sz cs := id rfl

/-! ### The state -/
@[simp] theorem ev_peek_t {n : Nat} : peek st (.t n) = hdV (st.s n) := id rfl
@[simp] theorem ev_peek_p {n : Nat} : peek st (.p n) = st.s n := id rfl
@[simp] theorem ev_peek_c {v : AV} : peek st (.c v) = v := id rfl
@[simp] theorem ev_give_t {n : Nat} : give st (.t n) = (gvV (st.s n), st.set n (gvV (st.s n))) := id rfl
@[simp] theorem ev_give_p {n : Nat} : give st (.p n) = (hdV (st.s n), st) := id rfl
@[simp] theorem ev_give_c {v : AV} : give st (.c v) = (v, st) := id rfl
@[simp] theorem ev_take_t {n : Nat} : take st (.t n) = (st.s n, st.set n (lfV (st.s n))) := id rfl
@[simp] theorem ev_take_p {n : Nat} : take st (.p n) = (hdV (st.s n), st) := id rfl
@[simp] theorem ev_take_c {v : AV} : take st (.c v) = (v, st) := id rfl
@[simp] theorem ev_copy_t {m : Mode} {n : Nat} : copy m st (.t n) = (cpV m (st.s n), st.set n (cpS m (st.s n))) := id rfl
@[simp] theorem ev_copy_p {m : Mode} {n : Nat} : copy m st (.p n) = (hdV (st.s n), st) := id rfl
@[simp] theorem ev_copy_c {m : Mode} {v : AV} : copy m st (.c v) = (v, st) := id rfl
@[simp] theorem ev_put_some {t : Nat} {v : AV} : st.put (some t) v = st.set t v := id rfl
@[simp] theorem ev_put_none {v : AV} : st.put none v = st := id rfl
@[simp] theorem ev_set {t : Nat} {v : AV} : st.set t v = ⟨upd st.s t v, st.b, st.h⟩ := id rfl
@[simp] theorem ev_pushH {o : Obj} : st.pushH o = ⟨st.s, st.b, st.h.push o⟩ := id rfl
@[simp] theorem ev_at_loc {t : Nat} : st.at (.loc t) = st.b t := id rfl
@[simp] theorem ev_at_obj {i : Nat} : st.at (.obj i) = st.h.get i := id rfl
@[simp] theorem ev_setAt_loc {t : Nat} {o : Obj} : st.setAt (.loc t) o = ⟨st.s, upd st.b t (some o), st.h⟩ := id rfl
@[simp] theorem ev_setAt_obj {i : Nat} {o : Obj} : st.setAt (.obj i) o = ⟨st.s, st.b, st.h.set i o⟩ := id rfl
@[simp] theorem ev_upd {α : Type} {s : Nat → α} {i j : Nat} {v : α} : upd s i v j = if j = i then v else s j := id rfl
@[simp] theorem ev_upd_upd {α : Type} {s : Nat → α} {i : Nat} {v w : α} : upd (upd s i v) i w = upd s i w := by funext j; simp only [upd]; split <;> rfl
@[simp] theorem ev_box_s {t j : Nat} {o : Obj} : (st.box t o).s j = (st.s j).kill t := id rfl
@[simp] theorem ev_box_b {t : Nat} {o : Obj} : (st.box t o).b = upd st.b t (some o) := id rfl
@[simp] theorem ev_box_h {t : Nat} {o : Obj} : (st.box t o).h = st.h := id rfl
end

def xends (rs : List ARes) (r : Ex × St) : Option (AV × H) :=
  match r.1 with
  | .exit _ => none
  | .normal => obind (xresults rs r.2) fun vs => some (oneOrTup vs.1, vs.2.h)
  | .ret => obind (xresults rs r.2) fun vs => some (oneOrTup vs.1, vs.2.h)
@[simp] theorem xends_normal (rs : List ARes) (st : St) : xends rs (.normal, st) = obind (xresults rs st) fun vs => some (oneOrTup vs.1, vs.2.h) := id rfl
@[simp] theorem xends_ret (rs : List ARes) (st : St) : xends rs (.ret, st) = obind (xresults rs st) fun vs => some (oneOrTup vs.1, vs.2.h) := id rfl

section
variable (fns : FuncId → Option AFunc)
theorem loopω_run {c : ACode} {st : St} {Q : Ex × St → Prop} (h : GoC fns Q [.ag c] c st) : LoopR fns c st Q := by
  refine LoopR_of fns (Ev.mono h fun ⟨e, st'⟩ h2 => ?_)
  cases e with
  | normal => exact h2
  | exit i => exact (Ev_ret _ _).2 h2
  | ret => exact (Ev_ret _ _).2 h2
theorem callω_runs {f : FuncId} {af : AFunc} (hf : fns f = some af) {c : ACode} {rs : List ARes} (hc : af.code = c) (hrs : af.res = rs) {vs : List AV} {h0 : H} (hx : af.x vs h0 = none) (hl : vs.length ≤ af.n) {p : AV × H → Prop}
    (h : GoC fns (fun e => Run (xends rs e) p) [] c ⟨fun j => (vs[j]?).getD .undef, fun _ => none, h0⟩) : CW fns f vs h0 p := by
  subst hc; subst hrs
  refine CW_of fns hf hl hx ?_
  obtain ⟨m, hm⟩ := h
  refine ⟨m, ?_⟩
  simp only [xbody, T.All_bind, T.All_ofO]
  exact hm
theorem callω_run {f : FuncId} {af : AFunc} (hf : fns f = some af) {c : ACode} {rs : List ARes} (hc : af.code = c) (hrs : af.res = rs) {vs : List AV} {h0 : H} (hx : af.x vs h0 = none) (hl : vs.length ≤ af.n) {r : AV × H}
    (h : GoC fns (fun e => xends rs e = some r) [] c ⟨fun j => (vs[j]?).getD .undef, fun _ => none, h0⟩) : callω fns f vs h0 = some r :=
  (callω_spec fns).2 (callω_runs fns hf hc hrs hx hl (Ev.mono h fun e he => ⟨r, he, rfl⟩))
theorem callω_runv {f : FuncId} {af : AFunc} (hf : fns f = some af) {c : ACode} {rs : List ARes} (hc : af.code = c) (hrs : af.res = rs) {vs : List AV} {h0 : H} (hx : af.x vs h0 = none) (hl : vs.length ≤ af.n) {v : AV}
    (h : GoC fns (fun e => Run (xends rs e) fun q => noHeap h0.n q = some v) [] c ⟨fun j => (vs[j]?).getD .undef, fun _ => none, h0⟩) : callv fns f vs h0 = some v :=
  (callv_spec fns).2 (callω_runs fns hf hc hrs hx hl h)
end
@[simp low] theorem callv_eq (fns : FuncId → Option AFunc) (f : FuncId) (vs : List AV) (h : H) : callv fns f vs h = (callω fns f vs h).elim (callv0 fns f vs h) (noHeap h.n) := id rfl

/-! Whole numbers bit by bit, under names of their own. -/
def andI (k : IntKind) (x y : Int) : Int := k.wrap (BitVec.ofInt k.bits x &&& BitVec.ofInt k.bits y).toNat
def orI (k : IntKind) (x y : Int) : Int := k.wrap (BitVec.ofInt k.bits x ||| BitVec.ofInt k.bits y).toNat
def xorI (k : IntKind) (x y : Int) : Int := k.wrap (BitVec.ofInt k.bits x ^^^ BitVec.ofInt k.bits y).toNat
def andNotI (k : IntKind) (x y : Int) : Int := k.wrap (BitVec.ofInt k.bits x &&& ~~~(BitVec.ofInt k.bits y)).toNat
section
variable {k : IntKind} {x y : Int}
@[simp] theorem aInt_add : aInt .add k x y = some (.int k (k.wrap (x + y))) := id rfl
@[simp] theorem aInt_sub : aInt .sub k x y = some (.int k (k.wrap (x - y))) := id rfl
@[simp] theorem aInt_mul : aInt .mul k x y = some (.int k (k.wrap (x * y))) := id rfl
@[simp] theorem aInt_quo : aInt .quo k x y = if y = 0 then none else some (.int k (k.wrap (x.tdiv y))) := id rfl
@[simp] theorem aInt_rem : aInt .rem k x y = if y = 0 then none else some (.int k (x.tmod y)) := id rfl
@[simp] theorem aInt_and : aInt .and k x y = some (.int k (andI k x y)) := id rfl
@[simp] theorem aInt_or : aInt .or k x y = some (.int k (orI k x y)) := id rfl
@[simp] theorem aInt_xor : aInt .xor k x y = some (.int k (xorI k x y)) := id rfl
@[simp] theorem aInt_andNot : aInt .andNot k x y = some (.int k (andNotI k x y)) := id rfl
@[simp] theorem aInt_eql : aInt .eql k x y = some (.bool (decide (x = y))) := id rfl
@[simp] theorem aInt_neq : aInt .neq k x y = some (.bool (!decide (x = y))) := id rfl
@[simp] theorem aInt_lss : aInt .lss k x y = some (.bool (decide (x < y))) := id rfl
@[simp] theorem aInt_leq : aInt .leq k x y = some (.bool (decide (x ≤ y))) := id rfl
@[simp] theorem aInt_gtr : aInt .gtr k x y = some (.bool (decide (y < x))) := id rfl
@[simp] theorem aInt_geq : aInt .geq k x y = some (.bool (decide (y ≤ x))) := id rfl
end
attribute [simp] ldV stV cvInt aBin aEq aStr fillV splice xresults xres pln oneOrTup bne ixStr bound
@[simp] theorem glV_some_t (n : Nat) (ys : List AV) : glV true n (some ys) = if n ≤ ys.length then some (.agg (ys.take n)) else none := id rfl
@[simp] theorem glV_some_f (n : Nat) (y : AV) (ys : List AV) : glV false n (some (y :: ys)) = some y := id rfl
@[simp] theorem glV_zero (x : Option (List AV)) : glV true 0 x = some (.agg []) := by cases x <;> simp [glV]
@[simp] theorem int_beq (a b : Int) : (a == b) = decide (a = b) := rfl

theorem wrap_i64 {n : Int} (h0 : -9223372036854775808 ≤ n) (h1 : n ≤ 9223372036854775807) : IntKind.i64.wrap n = n := by
  simp [IntKind.wrap, IntKind.signed, IntKind.bits]; omega
/-! Code by its definition. -/
section
theorem xOps {k c : ACode} {l : List AOper} (h : k = .ops l c) : ∀ {fns : FuncId → Option AFunc} {Q : Ex × St → Prop} {s : List Fr} {st : St}, GoC fns Q s k st ↔ GoO fns Q s l c st := by subst h; intros; exact goC_ops
theorem xSeq {k a b : ACode} (h : k = .seq a b) : ∀ {fns : FuncId → Option AFunc} {Q : Ex × St → Prop} {s : List Fr} {st : St}, GoC fns Q s k st ↔ GoC fns Q (.sq b :: s) a st := by subst h; intros; exact goC_seq
theorem xCond {k a b : ACode} {x : AX} (h : k = .cond x a b) : ∀ {fns : FuncId → Option AFunc} {Q : Ex × St → Prop} {s : List Fr} {st : St}, GoC fns Q s k st ↔ GB fns Q s (peek st x) a b st := by subst h; intros; exact goC_cond
theorem xBlock {k a : ACode} {i : Nat} (h : k = .block i a) : ∀ {fns : FuncId → Option AFunc} {Q : Ex × St → Prop} {s : List Fr} {st : St}, GoC fns Q s k st ↔ GoC fns Q (.bl i :: s) a st := by subst h; intros; exact goC_block
theorem xLoop {k a : ACode} (h : k = .loop a) : ∀ {fns : FuncId → Option AFunc} {Q : Ex × St → Prop} {s : List Fr} {st : St}, GoC fns Q s k st ↔ (LoopR fns a st fun r => GoE fns Q s r.1 r.2) := by subst h; intros; exact goC_loop
theorem xSame {k a : ACode} (h : k = a) : ∀ {fns : FuncId → Option AFunc} {Q : Ex × St → Prop} {s : List Fr} {st : St}, GoC fns Q s k st ↔ GoC fns Q s a st := by subst h; intros; exact Iff.rfl
end
end Go.Proofs.YticoldgiebmmgaaGreatDoor.Abs
