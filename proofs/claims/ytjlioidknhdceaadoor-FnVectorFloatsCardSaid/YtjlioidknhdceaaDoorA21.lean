/- Code, functions, calls. -/
import Derived.Test.YtjlioidknhdceaaDoorA20
import Derived.LoopN
namespace Go.Proofs.YtjlioidknhdceaaDoor.Abs
set_option linter.all false
set_option linter.unusedVariables false

variable {P : Program} {sg : FuncId → Nat → Nat} {hs : Nat → Nat} {w w' : World} {G G' : Gh} {a : Act} {o : Oper} {Q : Exit → Act → World → Prop}
variable {w0 : World} {F0 : FT} {A : Nat → Prop} {n : Nat} {st : St} {β : Type}
variable {cl : FuncId → List AV → H → T (AV × H)} {lp : ACode → St → T (Ex × St)}

def CQ (w0 : World) (F0 : FT) (A : Nat → Prop) (n : Nat) (K : St → T (Ex × St)) (R : Ex × St → Prop) : Exit → Act → World → Prop
  | .normal, a, w => ∃ st G, SR w0 F0 A n st a w G ∧ (K st).All R
  | .exit id, a, w => ∃ st G, SR w0 F0 A n st a w G ∧ R (.exit id, st)
  | .ret, a, w => ∃ st G, SR w0 F0 A n st a w G ∧ R (.ret, st)
  | _, _, _ => False

theorem CQ_goOn {K : St → T (Ex × St)} {R : Ex × St → Prop} {e : Exit} (h : CQ w0 F0 A n (fun st => .ret (.normal, st)) (fun r1 => (goOn r1 K).All R) e a w) : CQ w0 F0 A n K R e a w := by
  cases e with
  | normal => obtain ⟨st, G, h1, h2⟩ := h; exact ⟨st, G, h1, h2⟩
  | exit id => obtain ⟨st, G, h1, h2⟩ := h; exact ⟨st, G, h1, h2⟩
  | ret => obtain ⟨st, G, h1, h2⟩ := h; exact ⟨st, G, h1, h2⟩
  | _ => exact h.elim

theorem goOn_skip (r : Ex × St) : goOn r (fun st => .ret (.normal, st)) = .ret r := by
  obtain ⟨e, st⟩ := r
  cases e <;> rfl
theorem bind_ret {α : Type} : ∀ x : T α, x.bind .ret = x
  | .ret _ => rfl
  | .fail => rfl
  | .pick n k => by simp only [T.bind]; congr 1; funext d; exact bind_ret (k d)

theorem andThen_exec (x k : ACode) (st : St) : xexec cl lp (andThen x k) st = (xexec cl lp x st).bind fun r => goOn r fun st => xexec cl lp k st := by
  unfold andThen
  split
  · have : (fun r : Ex × St => goOn r fun st => xexec cl lp ACode.skip st) = fun r => .ret r := by funext r; exact goOn_skip r
    rw [this]; exact (bind_ret _).symm
  · rfl

def LoopOk (P : Program) (sg : FuncId → Nat → Nat) (lp : ACode → St → T (Ex × St)) : Prop :=
  ∀ {w0 : World} {F0 : FT} {A : Nat → Prop} {n : Nat} {hs : Nat → Nat} {c : Code} {c' : ACode}, pCode P sg hs n c .skip = some c' → ∀ {st : St} {R : Ex × St → Prop}, (lp c' st).All R → ∀ {a : Act} {w : World} {G : Gh}, SR w0 F0 A n st a w G →
    (Code.loop c).wp P (CQ w0 F0 A n (fun st => .ret (.normal, st)) R) a w

theorem code_sound (hcl : CallOk P cl) (hlp : LoopOk P sg lp) (hm : P.follows .mixedOrders = true) : ∀ {c : Code} {k x : ACode}, pCode P sg hs n c k = some x → ∀ {st : St} {R : Ex × St → Prop}, (xexec cl lp x st).All R →
    ∀ {a : Act} {w : World} {G : Gh}, SR w0 F0 A n st a w G → c.wp P (CQ w0 F0 A n (xexec cl lp k) R) a w := by
  intro c
  induction c with
  | skip =>
    intro k x hx st R hr a w G h
    simp only [pCode, Option.some.injEq] at hx; subst hx
    exact wp_skip ⟨st, G, h, hr⟩
  | region id ops draw =>
    intro k x hx st R hr a w G h
    simp only [pCode] at hx
    split at hx
    rotate_left
    · injection hx with hx; subst hx
      exact hr.elim
    rename_i l hl
    simp only [Option.map_eq_some_iff] at hx
    obtain ⟨al, hal, rfl⟩ := hx
    simp only [xexec] at hr
    cases draw with
    | true =>
      simp only [if_true] at hl
      exact region_draw_sound hcl hm (fun _ _ _ h => h) hl hal hr h (fun st' a' w' G' h1 h2 => ⟨st', G', h2, h1⟩)
    | false =>
      simp only [Bool.false_eq_true, if_false, Option.some.injEq] at hl; subst hl
      exact wp_region_list (ops_sound hcl hal hr h (fun st' a' w' G' h1 h2 => ⟨st', G', h2, h1⟩))
  | seq c d ihc ihd =>
    intro k x hx st R hr a w G h
    simp only [pCode, Option.bind_eq_some_iff] at hx
    obtain ⟨y, hy, hx⟩ := hx
    refine wp_seq (wp_mono (ihc hx hr h) ?_)
    intro e a' w' hq
    cases e with
    | normal => obtain ⟨st', G', h1, h2⟩ := hq; exact ihd hy h2 h1
    | exit id => exact hq
    | ret => exact hq
    | _ => exact hq.elim
  | cond c x y ihx ihy =>
    intro k z hz st R hr a w G h
    simp only [pCode, Option.bind_eq_some_iff, Option.map_eq_some_iff] at hz
    obtain ⟨ac, hac, x', hx', y', hy', rfl⟩ := hz
    rw [andThen_exec, T.All_bind] at hr
    simp only [xexec] at hr
    obtain ⟨p, hp⟩ := h.peekX hac
    unfold onBool at hr
    split at hr
    · rename_i hc; rw [hc] at hp
      exact wp_cond_true (TR_bool hp) (wp_mono (ihx hx' hr h) fun e a w hq => CQ_goOn hq)
    · rename_i hc; rw [hc] at hp
      exact wp_cond_false (TR_bool hp) (wp_mono (ihy hy' hr h) fun e a w hq => CQ_goOn hq)
    · exact hr.elim
  | block id c ih =>
    intro k z hz st R hr a w G h
    simp only [pCode, Option.map_eq_some_iff] at hz
    obtain ⟨c', hc', rfl⟩ := hz
    rw [andThen_exec, T.All_bind] at hr
    simp only [xexec, T.All_bind] at hr
    refine wp_block (wp_mono (ih hc' hr h) ?_)
    intro e a' w' hq
    cases e with
    | normal =>
      obtain ⟨st', G', h1, h2⟩ := hq
      exact ⟨st', G', h1, h2⟩
    | exit i =>
      obtain ⟨st0, G', h1, h2⟩ := hq
      simp only [Exit.inBlock]
      simp only [blockEnd, T.All_ret] at h2
      by_cases hi : i = id
      · rw [if_pos hi]; rw [if_pos hi] at h2; exact ⟨st0, G', h1, h2⟩
      · rw [if_neg hi]; rw [if_neg hi] at h2; exact ⟨st0, G', h1, h2⟩
    | ret =>
      obtain ⟨st0, G', h1, h2⟩ := hq
      exact ⟨st0, G', h1, h2⟩
    | _ => exact hq.elim
  | loop c ih =>
    intro k z hz st R hr a w G h
    simp only [pCode, Option.map_eq_some_iff] at hz
    obtain ⟨c', hc', rfl⟩ := hz
    rw [andThen_exec, T.All_bind] at hr
    simp only [xexec] at hr
    exact wp_mono (hlp hc' hr h) fun e a w hq => CQ_goOn hq
  | exit id =>
    intro k x hx st R hr a w G h
    simp only [pCode, Option.some.injEq] at hx; subst hx
    exact wp_exit ⟨st, G, h, hr⟩
  | ret =>
    intro k x hx st R hr a w G h
    simp only [pCode, Option.some.injEq] at hx; subst hx
    exact wp_ret ⟨st, G, h, hr⟩
  | _ => intro k x hx; simp [pCode] at hx <;> (subst hx; intro st R hr; exact hr.elim)

/-! ### Results -/
theorem TR_addr {p : Nat → Pos} {pv v : AV} {m : Mode} {agg : Bool} {k : Nat} {b b' : St} {x : Value} (h : TR w G p pv x) (hr : ldV m agg k pv b = some (v, b')) : ∃ ad, x = .pointer (some ad) := by
  unfold ldV at hr
  split at hr
  · obtain ⟨b, _, e⟩ := TR_ptr h; exact ⟨_, e⟩
  · obtain ⟨ad, e, _⟩ := TR_eptr h; exact ⟨_, e⟩
  · obtain ⟨ad, e, _⟩ := TR_eptr h; exact ⟨_, e⟩
  · exact ⟨_, TR_gl h⟩
  · cases hr

def resOne (tmps : Array Value) : ResultVar → Sem Value
  | .tmp t => pure (tmps.getD t undef)
  | .cell a t => do loadVar t (← asAddr (tmps.getD a undef))

theorem results_sound : ∀ {l : List ResultVar} {rs : List ARes} {st : St} {vs : List AV × St} {G : Gh} (j0 : Nat), pRes P l = some rs → xresults rs st = some vs → SR w0 F0 A n st a w G →
    ∃ us G', (l.mapM (resOne a.tmps)).run P w = .ok us w ∧ SR w0 F0 A n st a w G ∧ us.length = vs.1.length ∧ SR w0 F0 A n vs.2 a w G' ∧ (∀ i x v, TC w G (.arg i) x v → TC w G' (.arg i) x v) ∧ ∀ j (h : j < vs.1.length) (h' : j < us.length), TC w G' (.arg (j0 + j)) vs.1[j] us[j] ∧ vs.1[j].plain = true
  | [], rs, st, vs, G, j0, hp, hr, h => by
    simp only [pRes, Option.some.injEq] at hp; subst hp
    simp only [xresults, Option.some.injEq] at hr; subst hr
    exact ⟨[], G, by simp, h, rfl, h, fun _ _ _ h => h, fun j hj => absurd hj (by simp)⟩
  | .tmp t :: l, rs, st, vs, G, j0, hp, hr, h => by
    simp only [pRes, Option.map_eq_some_iff] at hp
    obtain ⟨rs', hrs', rfl⟩ := hp
    simp only [xresults, xres, obind_some, obind_eq_some, pln, Option.some.injEq] at hr
    obtain ⟨u, hu, vs', hvs', rfl⟩ := hr
    split at hu
    · rename_i hpl
      obtain ⟨G1, h1, h2, h3, _⟩ := h.takeO (x := .tmp t) (ax := .u t) rfl (fun _ => .arg j0) (by simp)
      obtain ⟨us, G', e1, e2, e3, e4, e5, e6⟩ := results_sound (j0 + 1) hrs' hvs' h1
      refine ⟨a.tmps.getD t undef :: us, G', ?_, h, by simp [e3], e4, fun i x v hv => e5 i x v (h3 _ _ _ (fun _ _ e => by cases e) (fun _ e => by cases e) hv), fun j hj hj' => ?_⟩
      · simp [List.mapM_cons, resOne, e1]
      · cases j with
        | zero => exact ⟨e5 _ _ _ (TC_of_TR h2 hpl), hpl⟩
        | succ j => have := e6 j (by simpa using hj) (by simpa using hj'); rw [Nat.add_assoc, Nat.add_comm 1 j] at this; exact this
    · cases hu
  | .cell t ty :: l, rs, st, vs, G, j0, hp, hr, h => by
    simp only [pRes, Option.bind_eq_some_iff, Option.map_eq_some_iff] at hp
    obtain ⟨ag, hag, k, hk, rs', hrs', rfl⟩ := hp
    simp only [xresults, xres, obind_eq_some, pln, Option.some.injEq] at hr
    obtain ⟨⟨v, b'⟩, hld, u, hu, vs', hvs', rfl⟩ := hr
    simp only at hu hvs'
    split at hu
    · rename_i hpl
      let o : Oper := { dst := none, op := .load ty (.tmp t), type := 0, pos := default, after := #[], guard := none }
      obtain ⟨ad, had⟩ := TR_addr (h.slots t) hld
      obtain ⟨G1, vv, k1, k2, k3, k4, k5, k6, k7, _⟩ := load_sound (P := P) (o := o) h rfl hag hk (h.slots t) hld (fun _ => .arg j0) (by simp) (by simp)
      obtain ⟨us, G', e1, e2, e3, e4, e5, e6⟩ := results_sound (j0 + 1) hrs' hvs' k1
      have hrun : (resOne a.tmps (.cell t ty)).run P w = .ok vv w := by
        have := k3 w (Pres.refl _ _ _)
        simp only [Runs, execOp, o, eval_tmp, had, Instr.loadAt, Instr.sureAddr] at this
        simp only [resOne, had, asAddr]
        simp at this ⊢
        cases hl : (loadVar ty ad).run P w with
        | ok v' w' => rw [hl] at this; simp at this; obtain ⟨rfl, rfl⟩ := this; rfl
        | halt x w' => rw [hl] at this; simp at this
      refine ⟨vv :: us, G', ?_, h, by simp [e3], e4, fun i x v hv => e5 i x v (k7 _ _ _ (fun _ _ e => by cases e) hv), fun j hj hj' => ?_⟩
      · simp [List.mapM_cons, hrun, e1]
      · cases j with
        | zero => exact ⟨e5 _ _ _ (TC_of_TR k2 hpl), hpl⟩
        | succ j => have := e6 j (by simpa using hj) (by simpa using hj'); rw [Nat.add_assoc, Nat.add_comm 1 j] at this; exact this
    · cases hu

end Go.Proofs.YtjlioidknhdceaaDoor.Abs
