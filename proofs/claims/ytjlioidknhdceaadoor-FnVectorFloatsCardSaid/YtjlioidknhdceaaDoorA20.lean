/- Regions: in their order, and where the order is left open. -/
import Derived.Test.YtjlioidknhdceaaDoorS2
import Derived.OrdersHeld
namespace Go.Proofs.YtjlioidknhdceaaDoor.Abs
set_option linter.all false
set_option linter.unusedVariables false

variable {P : Program} {sg : FuncId → Nat → Nat} {hs : Nat → Nat} {w w' : World} {G G' : Gh} {a : Act} {o : Oper} {ops : Array Oper} {Q : Exit → Act → World → Prop} {md : Region.Mode}
variable {w0 : World} {F0 : FT} {A : Nat → Prop} {n : Nat} {st : St} {β : Type}
variable {cl : FuncId → List AV → H → T (AV × H)} {pu : Nat → Bool}

theorem pOp_inv {all : List Oper} {k : AV → St → T β} {R : β → Prop} (hr : (opK cl (pOp P sg hs all o) st k).All R) : pOpA P sg hs all o = some (pOp P sg hs all o) := by
  cases hx : pOpA P sg hs all o with
  | some x => simp [pOp, hx]
  | none => simp [pOp, hx, opK] at hr

theorem dstIn_spec {dst : Option Nat} (h : dstIn n dst = true) : ∀ d, dst = some d → d < n := by
  intro d hd; subst hd; simpa [dstIn] using h

theorem yields_bool (h : SR w0 F0 A n st a w G) {j d : Nat} (hd : ((ops.toList[j]?).bind (·.dst)) = some d) {b : Bool} (hs : st.s d = .bool b) : yielded ops a.tmps j = some b := by
  have h1 := h.slots d
  rw [hs] at h1
  have h2 := TR_bool h1
  have hd' : (ops[j]?).bind (·.dst) = some d := by rw [← hd]; simp
  unfold yielded
  rw [hd']
  have : a.tmps[d]? = some (.bool b) := by
    cases hx : a.tmps[d]? with
    | none => simp [Array.getD_eq_getD_getElem?, hx, undef] at h2
    | some v => simp [Array.getD_eq_getD_getElem?, hx] at h2; rw [h2]
  simp [this]

theorem yields_skipped (h : SR w0 F0 A n st a w G) {j d : Nat} (hd : ((ops.toList[j]?).bind (·.dst)) = some d) (hs : st.s d = .skipped) : yielded ops a.tmps j = none := by
  have h1 := h.slots d
  rw [hs] at h1
  have h2 : a.tmps.getD d undef = undef := h1
  have hd' : (ops[j]?).bind (·.dst) = some d := by rw [← hd]; simp
  unfold yielded
  rw [hd']
  cases hx : a.tmps[d]? with
  | none => simp [hx]
  | some v => simp [Array.getD_eq_getD_getElem?, hx] at h2; rw [Option.bind_some, hx, h2]; rfl

section
variable {γ : Type}
theorem bind_congr' {α β : Type} {x : T α} {f g : α → T β} (h : ∀ a, f a = g a) : x.bind f = x.bind g := by rw [funext h]
theorem fillK_comp {K : γ → T β} : ∀ (l : List (Nat × Nat × AX)) (cs : List AV) (st : St) (k1 : List AV → St → T γ), fillK l cs st (fun cs st => (k1 cs st).bind K) = (fillK l cs st k1).bind K
  | [], cs, st, k1 => rfl
  | (off, m, x) :: l, cs, st, k1 => by
    simp only [fillK, on_bind2]
    congr 1; funext cs'; exact fillK_comp l cs' _ k1
theorem argsK_comp {K : γ → T β} : ∀ (l : List (AX × Bool)) (st : St) (k1 : List AV → St → T γ), argsK l st (fun vs st => (k1 vs st).bind K) = (argsK l st k1).bind K
  | [], st, k1 => rfl
  | (x, true) :: l, st, k1 => by
    simp only [argsK, on_bind2]
    congr 1; funext u; exact argsK_comp l _ _
  | (x, false) :: l, st, k1 => by
    simp only [argsK, on_bind2]
    congr 1; funext u; exact argsK_comp l _ _
theorem opK_comp (cl : FuncId → List AV → H → T (AV × H)) {K : γ → T β} (x : AOp) (st : St) (k1 : AV → St → T γ) : opK cl x st (fun v st => (k1 v st).bind K) = (opK cl x st k1).bind K := by
  cases x <;> simp only [opK] <;> first
    | rfl
    | exact (on_bind2 _ _ _).symm
    | exact fillK_comp _ _ _ _
    | exact (bind_bind _ _ _).symm
    | (split <;> rfl)
    | (rw [on_bind2]; congr 1; funext v; cases v <;> rfl)
    | (rw [← argsK_comp]; congr 1; funext vs st; rw [bind_bind]; apply bind_congr'; intro q; rw [on_bind2])
    | (rw [← argsK_comp]; congr 1; funext vs st; rw [bind_bind])
    | (rw [← argsK_comp]; congr 1; funext vs st; rw [on_bind2]; congr 1; funext q; split
       · rw [bind_bind]; apply bind_congr'; intro q; rw [on_bind2]
       · rw [bind_bind])
theorem opK_bind (cl : FuncId → List AV → H → T (AV × H)) {x : AOp} {dst : Option Nat} {K : St → T β} :
    opK cl x st (fun v st => K (st.put dst v)) = (opK cl x st (fun v st => .ret (st.put dst v))).bind K := by
  rw [← opK_comp]; rfl
end

theorem oper_cases {ao : AOper} (hx : pOper P sg hs n ops.toList o = some ao) (h : SR w0 F0 A n st a w G) {l : List AOper} {k : St → T β} {R : β → Prop} (hr : (opsK cl (ao :: l) st k).All R) :
    (∀ d, o.dst = some d → d < n) ∧ ao.op = pOp P sg hs ops.toList o ∧ ((Region.wanted o (yielded ops a.tmps) = true ∧ (opK cl (pOp P sg hs ops.toList o) st (fun v st => opsK cl l (st.put o.dst v) k)).All R) ∨
      (Region.wanted o (yielded ops a.tmps) = false ∧ (opsK cl l (st.put o.dst .skipped) k).All R)) := by
  unfold pOper at hx
  split at hx
  · rename_i hdst
    split at hx
    · rename_i hg
      injection hx with hx; subst hx
      refine ⟨dstIn_spec hdst, rfl, .inl ⟨by simp [Region.wanted, hg], hr⟩⟩
    · rename_i j want hg
      simp only [Option.map_eq_some_iff] at hx
      obtain ⟨d, hd, rfl⟩ := hx
      refine ⟨dstIn_spec hdst, rfl, ?_⟩
      simp only [opsK] at hr
      unfold onGuard at hr
      split at hr
      · rename_i b hs
        have hy := yields_bool (ops := ops) h hd hs
        split at hr
        · rename_i hb
          refine .inl ⟨by simp [Region.wanted, hg, hy, hb], ?_⟩
          -- the operation's outcome, then what follows
          rw [opK_bind (K := fun st => opsK cl l st k) cl]; exact hr
        · rename_i hb
          exact .inr ⟨by simp [Region.wanted, hg, hy, hb], hr⟩
      · rename_i hs
        have hy := yields_skipped (ops := ops) h hd hs
        exact .inr ⟨by simp [Region.wanted, hg, hy], hr⟩
      · exact hr.elim
  · cases hx

theorem ops_sound (hcl : CallOk P cl) : ∀ {l : List Oper} {al : List AOper} {st : St} {a : Act} {w : World} {G : Gh} {k : St → T β} {R : β → Prop},
    pOpers P sg hs n ops.toList l = some al → (opsK cl al st k).All R → SR w0 F0 A n st a w G →
    (∀ st' a' w' G', (k st').All R → SR w0 F0 A n st' a' w' G' → Q .normal a' w') → wpList P ops Q l a w
  | [], al, st, a, w, G, k, R, hp, hr, h, hQ => by
    simp only [pOpers, Option.some.injEq] at hp; subst hp
    exact hQ st a w G hr h
  | o :: l, al, st, a, w, G, k, R, hp, hr, h, hQ => by
    simp only [pOpers, Option.bind_eq_some_iff, Option.map_eq_some_iff] at hp
    obtain ⟨ao, hao, al', hal, rfl⟩ := hp
    obtain ⟨hd, _, hc⟩ := oper_cases hao h hr
    unfold wpList
    rcases hc with ⟨hw, hr'⟩ | ⟨hw, hr'⟩
    · rw [if_pos hw]
      refine .inl (op_soundA hcl ops.toList (pOp_inv hr') h hr' fun v' w' ⟨v, st', G', h1, h2, h3, _⟩ => ?_)
      exact ops_sound hcl hal h1 (h2.put hd h3) hQ
    · rw [if_neg (by rw [hw]; simp)]
      exact ops_sound hcl hal hr' (h.put hd (fun d _ => rfl)) hQ

/-! ### An order left open -/

def wpAnyX (pu : Nat → Bool) (P : Program) (md : Region.Mode) (ops : Array Oper) (Q : Exit → Act → World → Prop) : Nat → Array Bool → (World → Prop) → (World → Prop) → Act → World → Prop
  | 0, listed, _, _, a, w => Region.ready md ops listed = [] ∧ Q .normal a w
  | fuel + 1, listed, S, C, a, w =>
    (Region.ready md ops listed = [] → Q .normal a w) ∧
    ∀ i ∈ Region.ready md ops listed, wpOp P ops Q i (fun a' w' => ∃ S' C' : World → Prop, (∀ w, C' w → C w) ∧ C' w' ∧ (barB pu ops i = true ∨ ∀ w, S' w → S w) ∧ S' w' ∧ wpAnyX pu P md ops Q fuel (listed.setIfInBounds i true) S' C' a' w') a w

theorem wpAny_of_X : ∀ (fuel : Nat) (listed : Array Bool) (S C : World → Prop) (a : Act) (w : World), wpAnyX pu P md ops Q fuel listed S C a w → wpAny P md ops Q fuel listed a w
  | 0, _, _, _, _, _, h => h
  | fuel + 1, _, _, _, _, _, h => ⟨h.1, fun i hi => wpOp_mono (fun a' w' ⟨S', C', _, _, _, _, h'⟩ => wpAny_of_X fuel _ S' C' a' w' h') (h.2 i hi)⟩

theorem wpAnyX_weaken {fuel : Nat} {listed : Array Bool} {S S' C C' : World → Prop} {a : Act} {w : World} (hS : ∀ w, S' w → S w) (hC : ∀ w, C' w → C w) (h : wpAnyX pu P md ops Q fuel listed S' C' a w) : wpAnyX pu P md ops Q fuel listed S C a w := by
  cases fuel with
  | zero => exact h
  | succ fuel => exact ⟨h.1, fun i hi => wpOp_mono (fun a' w' ⟨S2, C2, h0, h00, h1, h2, h3⟩ => ⟨S2, C2, fun w hw => hC w (h0 w hw), h00, h1.imp id (fun k w hw => hS w (k w hw)), h2, h3⟩) (h.2 i hi)⟩

def Closed (ops : Array Oper) (listed : Array Bool) : Prop := ∀ (j : Nat) oj, ops[j]? = some oj → listed.getD j false = true → ∀ e ∈ oj.after, Region.binds .any e = true → listed.getD e.on false = true

theorem foldl_app {α β : Type} (g : List β → α → β) : ∀ (l : List α) (acc : List β),
    ∃ r, l.foldl (fun acc o => acc ++ [g acc o]) acc = acc ++ r ∧ r.length = l.length ∧ ∀ k (h : k < l.length) (h' : k < r.length), r[k] = g (acc ++ r.take k) l[k]
  | [], acc => ⟨[], by simp, rfl, fun k h => absurd h (by simp)⟩
  | o :: l, acc => by
    obtain ⟨r, h1, h2, h3⟩ := foldl_app g l (acc ++ [g acc o])
    refine ⟨g acc o :: r, by simp [h1], by simp [h2], fun k hk hk' => ?_⟩
    cases k with
    | zero => simp
    | succ k => simp only [List.getElem_cons_succ, List.take_succ_cons]; rw [h3 k (by simpa using hk) (by simpa using hk')]; simp

theorem waitsFor_spec {i j : Nat} (h : (waitsFor ops i).getD j false = true) : ∃ oj, ops[j]? = some oj ∧ ∃ e ∈ oj.after, Region.binds .any e = true ∧ (e.on = i ∨ (e.on < j ∧ (waitsFor ops i).getD e.on false = true)) := by
  obtain ⟨r, h1, h2, h3⟩ := foldl_app (fun (acc : List Bool) (o : Oper) => o.after.any fun e => Region.binds .any e && (e.on == i || acc.getD e.on false)) ops.toList []
  have hw : waitsFor ops i = r := by unfold waitsFor; rw [h1]; rfl
  rw [hw] at h ⊢
  by_cases hj : j < r.length
  · have hj' : j < ops.toList.length := by rw [← h2]; exact hj
    have h4 := h3 j hj' hj
    rw [List.getD_eq_getElem?_getD, List.getElem?_eq_getElem hj, Option.getD_some, h4] at h
    rw [Array.any_eq_true'] at h
    obtain ⟨e, he, h5⟩ := h
    simp only [Bool.and_eq_true, Bool.or_eq_true, beq_iff_eq, List.nil_append] at h5
    refine ⟨ops.toList[j], by simp [Array.getElem?_eq_getElem (by simpa using hj')], e, he, h5.1, h5.2.imp id fun h6 => ?_⟩
    rw [List.getD_eq_getElem?_getD] at h6 ⊢
    by_cases hlt : e.on < j
    · refine ⟨hlt, ?_⟩
      rw [List.getElem?_take_of_lt hlt] at h6; exact h6
    · rw [List.getElem?_eq_none (by simp; omega)] at h6; simp at h6
  · rw [List.getD_eq_getElem?_getD, List.getElem?_eq_none (by omega)] at h; simp at h

theorem waitsFor_not {listed : Array Bool} (hcl : Closed ops listed) {i : Nat} (hi : listed.getD i true = false) : ∀ (m j : Nat), j ≤ m → (∀ oj, ops[j]? = some oj → ∀ e ∈ oj.after, Region.binds .any e = true → listed.getD e.on false = true) → (waitsFor ops i).getD j false ≠ true := by
  have hi' : listed.getD i false ≠ true := by
    intro h1
    rcases Nat.lt_or_ge i listed.size with h' | h'
    · simp [h'] at hi h1; rw [hi] at h1; cases h1
    · simp [Array.getElem?_eq_none h'] at h1
  intro m
  induction m with
  | zero =>
    intro j hj hall h
    obtain ⟨oj, h1, e, he, hb, h2⟩ := waitsFor_spec h
    rcases h2 with h2 | ⟨h2, _⟩
    · exact hi' (h2 ▸ hall oj h1 e he hb)
    · omega
  | succ m ih =>
    intro j hj hall h
    obtain ⟨oj, h1, e, he, hb, h2⟩ := waitsFor_spec h
    rcases h2 with h2 | ⟨h2, h3⟩
    · exact hi' (h2 ▸ hall oj h1 e he hb)
    · exact ih e.on (by omega) (fun o' ho' => hcl e.on o' ho' (hall oj h1 e he hb)) h3

theorem barB_not {listed : Array Bool} {i j : Nat} (hpu : pu i = false) (hcl : Closed ops listed) (hij : j ≠ i) (hi : i ∈ Region.ready .any ops listed) (hj : j ∈ Region.ready .any ops listed) : barB pu ops j ≠ true := by
  intro h
  obtain ⟨hiu, oi, hoi, hia⟩ := mem_ready.1 hi
  obtain ⟨hju, oj, hoj, hja⟩ := mem_ready.1 hj
  unfold barB at h
  rw [List.all_eq_true] at h
  have := h i (List.mem_range.2 (Array.getElem?_eq_some_iff.1 hoi).1)
  simp only [Bool.or_eq_true, beq_iff_eq, hpu, Bool.false_eq_true, or_false] at this
  rcases this with (h1 | h1) | h1
  · exact hij h1.symm
  · exact waitsFor_not hcl hiu j j (Nat.le_refl _) (fun o ho => by rw [hoj] at ho; injection ho with ho; subst ho; exact hja) h1
  · exact waitsFor_not hcl hju i i (Nat.le_refl _) (fun o ho => by rw [hoi] at ho; injection ho with ho; subst ho; exact hia) h1

theorem Closed.set {listed : Array Bool} {i : Nat} (hcl : Closed ops listed) (hi : i ∈ Region.ready .any ops listed) : Closed ops (listed.setIfInBounds i true) := by
  obtain ⟨hiu, oi, hoi, hia⟩ := mem_ready.1 hi
  have hmono : ∀ k, listed.getD k false = true → (listed.setIfInBounds i true).getD k false = true := fun k hk => by
    by_cases hki : i = k
    · subst hki
      rcases Nat.lt_or_ge i listed.size with h' | h'
      · simp [h']
      · simp [Array.getElem?_eq_none h'] at hk
    · rw [getD_set_ne false hki]; exact hk
  intro j oj hoj hl e he hb
  by_cases hji : i = j
  · subst hji; rw [hoi] at hoj; injection hoj with hoj; subst hoj; exact hmono _ (hia e he hb)
  · rw [getD_set_ne false hji] at hl; exact hmono _ (hcl j oj hoj hl e he hb)

theorem wpAnyX_first {i : Nat} {oi : Oper} {v : Value} {Sy : World → Prop} (hi : ops[i]? = some oi) (hsel : ∀ (j : Nat) (o : Oper) cs b, ops[j]? = some o → o.op ≠ .select cs b)
    (hQ : ∀ c a w, Q (.panic c) (a.put oi.dst v) w → Q (.panic c) a w) :
    ∀ (fuel : Nat) (listed : Array Bool) (S C : World → Prop) (a : Act) (w : World),
      (∀ j oj, ops[j]? = some oj → j ≠ i → listed.getD j true = false → (∀ e ∈ oj.after, Region.binds .any e = true → e.on ≠ i) → oi.apart ops oj = true) →
      Closed ops listed → i ∈ Region.ready .any ops listed → YieldsIf P ops Sy oi v a → ((pu i = false ∧ ∀ w, S w → Sy w) ∨ ∀ w, C w → Sy w) → S w → C w →
      wpAnyX pu P .any ops Q fuel (listed.setIfInBounds i true) S C (a.put oi.dst v) w → wpAnyX pu P .any ops Q (fuel + 1) listed S C a w := by
  intro fuel
  induction fuel with
  | zero =>
    intro listed S C a w _ hcl hr hy hrel hS hCw H
    have hSy : Sy w := hrel.elim (fun h => h.2 w hS) fun h => h w hCw
    refine ⟨fun h => (by rw [h] at hr; cases hr), fun j hj => ?_⟩
    by_cases hji : j = i
    · subst hji; exact hy.wpOp hi hSy ⟨S, C, fun _ h => h, hCw, .inr fun _ h => h, hS, H⟩
    · have := ready_mono hj hji
      rw [H.1] at this
      cases this
  | succ fuel ih =>
    intro listed S C a w hfree hcl hr hy hrel hS hCw H
    have hSy : Sy w := hrel.elim (fun h => h.2 w hS) fun h => h w hCw
    refine ⟨fun h => (by rw [h] at hr; cases hr), fun j hj => ?_⟩
    by_cases hji : j = i
    · subst hji; exact hy.wpOp hi hSy ⟨S, C, fun _ h => h, hCw, .inr fun _ h => h, hS, H⟩
    · have h1 := H.2 j (ready_mono hj hji)
      obtain ⟨hjun, oj, hoj, hall⟩ := mem_ready.1 hj
      have hnot : ∀ e ∈ oj.after, Region.binds .any e = true → e.on ≠ i := fun e he hb heq => by
        have h1 := hall e he hb
        have h0 := (mem_ready.1 hr).1
        rw [heq] at h1
        rcases Nat.lt_or_ge i listed.size with h' | h'
        · simp [h'] at h0 h1; rw [h0] at h1; cases h1
        · simp [Array.getElem?_eq_none h'] at h1
      have h2 := wpOp_putIf hoj (hfree j oj hoj hji hjun hnot) (fun cs b => hsel i oi cs b hi) (fun cs b => hsel j oj cs b hoj) hQ hy h1
      have hfree' : ∀ k ok, ops[k]? = some ok → k ≠ i → (listed.setIfInBounds j true).getD k true = false →
          (∀ e ∈ ok.after, Region.binds .any e = true → e.on ≠ i) → oi.apart ops ok = true := fun k ok hk hki hun hno => by
        refine hfree k ok hk hki ?_ hno
        by_cases hjk : j = k
        · subst hjk; exact hjun
        · rw [getD_set_ne true hjk] at hun; exact hun
      refine wpOp_mono (fun a' w' ⟨h3, S', C', hc0, hc1, h40, h5, h6⟩ => ⟨S', C', hc0, hc1, h40, h5, ih (listed.setIfInBounds j true) S' C' a' w' hfree' (hcl.set hj) (ready_mono hr (Ne.symm hji)) h3 (hrel.imp (fun hp => ⟨hp.1, fun w hw => hp.2 w (h40.resolve_left (barB_not hp.1 hcl hji hr hj) w hw)⟩) fun hp w hw => hp w (hc0 w hw)) h5 hc1 ?_⟩) h2
      rw [Array.setIfInBounds_comm _ _ hji]
      exact h6

theorem freeAt_spec {listed : Array Bool} {i : Nat} {oi : Oper} (h : freeAt ops listed i oi = true) :
    ∀ j oj, ops[j]? = some oj → j ≠ i → listed.getD j true = false → (∀ e ∈ oj.after, Region.binds .any e = true → e.on ≠ i) → oi.apart ops oj = true := by
  intro j oj hj hji hl hno
  unfold freeAt at h
  rw [List.all_eq_true] at h
  have := h j (List.mem_range.2 (Array.getElem?_eq_some_iff.1 hj).1)
  rw [hj, hl] at this
  simp only [Bool.or_false, Bool.or_eq_true, beq_iff_eq, hji, false_or] at this
  rcases this with h1 | h1
  · rw [Array.any_eq_true'] at h1
    obtain ⟨e, he, h2⟩ := h1
    simp only [Bool.and_eq_true, beq_iff_eq] at h2
    exact absurd h2.2 (hno e he h2.1)
  · exact h1

def Here (G : Gh) (b : Nat) : Prop := G.ω b ≠ .free
theorem SR.rebase (h : SR w0 F0 A n st a w G) : SR w G.Fr (Here G) n st a w G :=
  ⟨h.size, h.defers, h.slots, h.boxes, h.heap, Kp.refl _ _, Ext.refl _ _, fun b hb => ⟨(h.mine b hb).1, .inl hb⟩, fun _ _ _ => rfl, h.fresh, h.nob⟩
theorem SR.unbase (h : SR w0 F0 A n st a w G) {st' : St} {a' : Act} {w' : World} {G' : Gh} (k : SR w G.Fr (Here G) n st' a' w' G') : SR w0 F0 A n st' a' w' G' := by
  have hA : ∀ b, Here G b → b < w.heap.size ∧ (A b ∨ w0.heap.size ≤ b) := fun b hb => h.mine b hb
  refine ⟨k.size, k.defers, k.slots, k.boxes, k.heap, h.kept.trans k.kept (fun b hb hd => ?_), h.ext.trans k.ext, fun b hb => ?_, fun b hb hnA => ?_, k.fresh, k.nob⟩
  · rcases (hA b hd).2 with h' | h'
    · exact h'
    · omega
  · obtain ⟨h1, h2⟩ := k.mine b hb
    rcases h2 with h2 | h2
    · exact ⟨h1, (hA b h2).2⟩
    · exact ⟨h1, .inr (Nat.le_trans h.kept.size h2)⟩
  · have hnH : ¬ Here G b := fun hh => by rcases (hA b hh).2 with h' | h'; { exact hnA h' }; { omega }
    exact (k.same b (Nat.lt_of_lt_of_le hb h.kept.size) hnH).trans (h.same b hb hnA)
theorem op_soundE (hcl : CallOk P cl) (all : List Oper) {x : AOp} (hx : pOpA P sg hs all o = some x) (h : SR w0 F0 A n st a w G) {k : AV → St → T β} {R : β → Prop} (hr : (opK cl x st k).All R)
    {next : Act → World → Prop} (hn : ∀ v' w', (∃ v st' G', ((k v st').All R ∧ SR w0 F0 A n st' a w' G' ∧ (∀ d, o.dst = some d → TR w' G' (.slot d) v v') ∧ ((x.early = true ∨ x.calm = true) → Stab st.at G w st'.at G' w')) ∧ Ext w G.Fr w' G'.Fr) → next (a.put o.dst v') w') : o.wp P a w next Q :=
  op_soundA hcl all hx h.rebase hr fun v' w' ⟨v, st', G', h1, h2, h3, h4⟩ => hn v' w' ⟨v, st', G', ⟨h1, h.unbase h2, h3, h4⟩, h2.ext⟩

theorem late_step (hcl : CallOk P cl) {i : Nat} {oi : Oper} {ao : AOper} (hoi : ops[i]? = some oi) (hcalm : (pOp P sg hs ops.toList oi).calm = true ∨ barB pu ops i = true) (hao : pOper P sg hs n ops.toList oi = some ao) {al : List AOper} {st : St} {a : Act} {w : World} {G : Gh} {k : St → T β} {R : β → Prop}
    (hr : (opsK cl (ao :: al) st k).All R) (h : SR w0 F0 A n st a w G) {RR : (World → Prop) → (World → Prop) → Act → World → Prop} (hR : ∀ st' a' w' G', (opsK cl al st' k).All R → SR w0 F0 A n st' a' w' G' → RR (Pres st'.at G' w') (Pres (fun _ => none) G' w') a' w') :
    wpOp P ops Q i (fun a' w' => ∃ S' C' : World → Prop, (∀ w'', C' w'' → Pres (fun _ => none) G w w'') ∧ C' w' ∧ (barB pu ops i = true ∨ ∀ w'', S' w'' → Pres st.at G w w'') ∧ S' w' ∧ RR S' C' a' w') a w := by
  obtain ⟨hd, _, hcs⟩ := oper_cases hao h hr
  unfold wpOp
  simp only [hoi]
  rcases hcs with ⟨hw, hr'⟩ | ⟨hw, hr'⟩
  · rw [if_pos hw]
    refine .inl (op_soundE hcl ops.toList (pOp_inv hr') h hr' fun v' w' ⟨v, st', G', ⟨h1, h2, h3, h4⟩, hE⟩ => ?_)
    have hb : (st'.put oi.dst v).at = st'.at := by cases oi.dst <;> rfl
    exact ⟨Pres (st'.put oi.dst v).at G' w', Pres (fun _ => none) G' w', fun w'' hw'' => ⟨fun b o u ho hu => hw''.cell b o u (Nat.lt_of_lt_of_le ho (hE.more b)) (hE.cell b o u ho hu), fun _ _ _ hs => by cases hs⟩, Pres.refl _ _ _, hcalm.elim (fun hcalm => .inr fun w'' hw'' => (h4 (.inr hcalm)).pres (by rw [hb] at hw''; exact hw'')) .inl, Pres.refl _ _ _, hR _ _ _ _ h1 (h2.put hd h3)⟩
  · rw [if_neg (by rw [hw]; simp)]
    have hb : (st.put oi.dst .skipped).at = st.at := by cases oi.dst <;> rfl
    exact ⟨Pres (st.put oi.dst .skipped).at G w, Pres (fun _ => none) G w, fun _ h => h, Pres.refl _ _ _, .inr fun w'' hw'' => by rw [hb] at hw''; exact hw'', Pres.refl _ _ _, hR _ _ _ _ hr' (h.put hd (fun d _ => rfl))⟩

theorem pOper_plain {o : Oper} {ao : AOper} (hg : o.guard.isNone = true) (h : pOper P sg hs n ops.toList o = some ao) : ao = ⟨pOp P sg hs ops.toList o, o.dst, none⟩ := by
  unfold pOper at h
  split at h
  · split at h
    · injection h with h; exact h.symm
    · rename_i hj; rw [hj] at hg; cases hg
  · cases h

theorem bubble_sound {j : Nat} : ∀ {L L2 : List Nat} {l : List Oper} {al : List AOper} {st : St} {k : St → T β} {R : β → Prop}, bubble P sg hs ops j L = some L2 → getAll ops L = some l → pOpers P sg hs n ops.toList l = some al → (opsK cl al st k).All R →
    ∃ oj aj l2 al2, ops[j]? = some oj ∧ pOper P sg hs n ops.toList oj = some aj ∧ getAll ops L2 = some l2 ∧ pOpers P sg hs n ops.toList l2 = some al2 ∧ (opsK cl (aj :: al2) st k).All R
  | [], L2, l, al, st, k, R, hb, _, _, _ => by simp [bubble] at hb
  | m :: t, L2, l, al, st, k, R, hb, hg, hp, hr => by
    simp only [getAll, Option.bind_eq_some_iff, Option.map_eq_some_iff] at hg
    obtain ⟨om, hom, l', hl', rfl⟩ := hg
    simp only [pOpers, Option.bind_eq_some_iff, Option.map_eq_some_iff] at hp
    obtain ⟨am, ham, al', hal', rfl⟩ := hp
    unfold bubble at hb
    split at hb
    · rename_i hmj
      injection hb with hb; subst hb; subst hmj
      exact ⟨om, am, l', al', hom, ham, hl', hal', hr⟩
    · split at hb
      · rename_i om' oj hom' hoj
        rw [hom] at hom'; injection hom' with hom'; subst hom'
        split at hb
        · rename_i hcond
          simp only [Bool.and_eq_true] at hcond
          obtain ⟨⟨hgm, hgj⟩, hsw⟩ := hcond
          simp only [Option.map_eq_some_iff] at hb
          obtain ⟨t2, ht2, rfl⟩ := hb
          have em := pOper_plain hgm ham
          subst em
          have hfoot : ∃ F, (pOp P sg hs ops.toList om).foot = some F ∧ (pOp P sg hs ops.toList om).still = true := by
            rcases Bool.or_eq_true _ _ ▸ hsw with hsw | hsw
            · unfold swapOk at hsw
              split at hsw
              · rename_i h1 h2 h3 h4 h5 h6
                simp only [Bool.and_eq_true] at hsw
                exact ⟨_, h5, hsw.1.1⟩
              · cases hsw
            · unfold boxOk at hsw
              split at hsw
              · rename_i h1 h2 h3 h4 h5 h6
                simp only [Bool.and_eq_true] at hsw
                exact ⟨_, h6, hsw.1.1.2⟩
              · cases hsw
          obtain ⟨F, hF, hw⟩ := hfoot
          have hr0 := hr
          simp only [opsK] at hr0
          obtain ⟨tx, st', ex, _⟩ := opK_fram (cl := cl) (L := F) hw hF (fun _ h => h) st
          rw [ex, T.All_bind] at hr0
          obtain ⟨v0, e1⟩ := hr0.ex
          obtain ⟨oj', aj, l2, al2, g1, g2, g3, g4, _⟩ := bubble_sound ht2 hl' hal' e1
          rw [hoj] at g1; injection g1 with g1; subst g1
          have ej := pOper_plain hgj g2
          subst ej
          refine ⟨oj, _, om :: l2, _, hoj, g2, by simp [getAll, hom, g3], by simp [pOpers, ham, g4]; rfl, (Bool.or_eq_true _ _ ▸ hsw).elim (fun hsw h => swap_ops hsw h) (fun hsw h => swap_box hsw h) ?_⟩
          show (opK cl _ st (fun v st => opsK cl (_ :: al2) (st.put om.dst v) k)).All R
          rw [ex, T.All_bind]
          refine T.All.mono (fun v hv => ?_) hr0
          obtain ⟨oj', aj', l2', al2', k1, k2, k3, k4, k5⟩ := bubble_sound ht2 hl' hal' hv
          rw [hoj] at k1; injection k1 with k1; subst k1
          rw [g2] at k2; injection k2 with k2; subst k2
          rw [g3] at k3; injection k3 with k3; subst k3
          rw [g4] at k4; injection k4 with k4; subst k4
          exact k5
        · cases hb
      · cases hb

theorem draw_sound (hcl : CallOk P cl) (hsel : ∀ (j : Nat) (o : Oper) cs b, ops[j]? = some o → o.op ≠ .select cs b) (hQp : ∀ c a w, ¬ Q (.panic c) a w) :
    ∀ {fuel : Nat} {listed : Array Bool} {idx : List Nat} {l : List Oper} {al : List AOper} {st : St} {a : Act} {w : World} {G : Gh} {k : St → T β} {R : β → Prop},
    Closed ops listed → canonGo P sg hs ops fuel listed = some idx → getAll ops idx = some l → pOpers P sg hs n ops.toList l = some al → (opsK cl al st k).All R → SR w0 F0 A n st a w G →
    (∀ st' a' w' G', (k st').All R → SR w0 F0 A n st' a' w' G' → Q .normal a' w') → wpAnyX (pureAt P sg hs ops) P .any ops Q fuel listed (Pres st.at G w) (Pres (fun _ => none) G w) a w := by
  intro fuel
  induction fuel with
  | zero =>
    intro listed idx l al st a w G k r hcd hc hg hp hr h hQ
    unfold canonGo at hc
    split at hc
    · rename_i he
      injection hc with hc; subst hc
      simp only [getAll, Option.some.injEq] at hg; subst hg
      simp only [pOpers, Option.some.injEq] at hp; subst hp
      exact ⟨he, hQ st a w G hr h⟩
    · cases hc
  | succ fuel ih =>
    intro listed idx l al st a w G k r hcd hc hg hp hr h hQ
    unfold canonGo at hc
    split at hc
    · rename_i he
      injection hc with hc; subst hc
      simp only [getAll, Option.some.injEq] at hg; subst hg
      simp only [pOpers, Option.some.injEq] at hp; subst hp
      exact ⟨fun _ => hQ st a w G hr h, fun i hi => (by rw [he] at hi; cases hi)⟩
    · rename_i hne
      split at hc
      · -- one that is taken first
        rename_i i hfind
        have hmem := List.mem_of_find?_eq_some hfind
        have hprop := List.find?_some hfind
        simp only [Option.map_eq_some_iff] at hc
        obtain ⟨idx', hc', rfl⟩ := hc
        simp only [getAll, Option.bind_eq_some_iff, Option.map_eq_some_iff] at hg
        obtain ⟨oi, hoi, l', hl', rfl⟩ := hg
        rw [hoi] at hprop
        simp only [Bool.and_eq_true] at hprop
        obtain ⟨hearly, hfree⟩ := hprop
        simp only [pOpers, Option.bind_eq_some_iff, Option.map_eq_some_iff] at hp
        obtain ⟨ao, hao, al', hal, rfl⟩ := hp
        obtain ⟨hd, _, hcs⟩ := oper_cases hao h hr
        have hQ' : ∀ (v : Value) c a w, Q (.panic c) (a.put oi.dst v) w → Q (.panic c) a w := fun v c a w hq => absurd hq (hQp _ _ _)
        rcases hcs with ⟨hw, hr'⟩ | ⟨hw, hr'⟩
        · obtain ⟨v', v, st', G', h1, h2, h3, hS, hR⟩ := early_soundA (cl := cl) ops.toList (pOp_inv hr') hearly h hr'
          have hb : (st'.put oi.dst v).at = st'.at := by cases oi.dst <;> rfl
          have hrest := ih (hcd.set hmem) hc' hl' hal h1 (h2.put hd h3) hQ
          rw [hb] at hrest
          have hpa : pureAt P sg hs ops i = (pOp P sg hs ops.toList oi).pure := by unfold pureAt; rw [hoi]
          have hrel : (pureAt P sg hs ops i = false ∧ ∀ w'', Pres st'.at G' w w'' → ((pOp P sg hs ops.toList oi).pure = true ∧ Pres (fun _ => none) G' w w'') ∨ Pres st'.at G' w w'') ∨ ∀ w'', Pres (fun _ => none) G' w w'' → ((pOp P sg hs ops.toList oi).pure = true ∧ Pres (fun _ => none) G' w w'') ∨ Pres st'.at G' w w'' := by
            cases hp : (pOp P sg hs ops.toList oi).pure with
            | true => exact .inr fun _ h => .inl ⟨rfl, h⟩
            | false => exact .inl ⟨by rw [hpa, hp], fun _ h => .inr h⟩
          exact wpAnyX_weaken (fun w'' hw'' => hS.pres hw'') (fun w'' hw'' => ⟨fun b o u ho hu => hw''.cell b o u (Nat.lt_of_lt_of_le ho (hS.ext.more b)) hu, fun _ _ _ hs => by cases hs⟩) (wpAnyX_first hoi hsel (hQ' v') fuel listed _ _ a w (freeAt_spec hfree) hcd hmem (.inl ⟨hw, fun w'' hw'' => hR w'' hw''⟩) hrel (Pres.refl _ _ _) (Pres.refl _ _ _) hrest)
        · refine wpAnyX_first hoi hsel (hQ' undef) fuel listed _ _ a w (Sy := fun _ => True) (freeAt_spec hfree) hcd hmem (.inr ⟨hw, rfl⟩) (.inr fun _ _ => trivial) (Pres.refl _ _ _) (Pres.refl _ _ _) ?_
          have := ih (hcd.set hmem) hc' hl' hal hr' (h.put hd (fun d _ => rfl)) hQ
          have hb : (st.put oi.dst .skipped).at = st.at := by cases oi.dst <;> rfl
          rw [hb] at this; exact this
      · split at hc
        · rename_i i hready
          split at hc
          · rename_i oi hoi
            split at hc
            · rename_i hcalm
              simp only [Option.map_eq_some_iff] at hc
              obtain ⟨idx', hc', rfl⟩ := hc
              simp only [getAll, Option.bind_eq_some_iff, Option.map_eq_some_iff] at hg
              obtain ⟨oi', hoi', l', hl', rfl⟩ := hg
              rw [hoi] at hoi'; injection hoi' with hoi'; subst hoi'
              simp only [pOpers, Option.bind_eq_some_iff, Option.map_eq_some_iff] at hp
              obtain ⟨ao, hao, al', hal, rfl⟩ := hp
              refine ⟨fun he => (by rw [hready] at he; cases he), fun j hj => ?_⟩
              have hcd' := hcd.set hj
              rw [hready, List.mem_singleton] at hj; subst hj
              exact late_step hcl hoi (by simpa using hcalm) hao hr h (RR := fun S C a w => wpAnyX (pureAt P sg hs ops) P .any ops Q fuel (listed.setIfInBounds j true) S C a w) (fun st' a' w' G' h1 h2 => ih hcd' hc' hl' hal h1 h2 hQ)
            · cases hc
          · cases hc
        · rename_i i j hready
          split at hc
          · rename_i oi oj hoi hoj
            split at hc
            · rename_i hcond
              simp only [Bool.and_eq_true] at hcond
              obtain ⟨hci, hcj⟩ := hcond
              simp only [Option.bind_eq_some_iff] at hc
              obtain ⟨l1, hl1, l2, hl2, hc⟩ := hc
              split at hc
              · rename_i hbub
                injection hc with hc; subst hc
                obtain ⟨oj', aj, lr2, al2, g1, g2, g3, g4, g5⟩ := bubble_sound hbub hg hp hr
                rw [hoj] at g1; injection g1 with g1; subst g1
                simp only [getAll, Option.bind_eq_some_iff, Option.map_eq_some_iff] at hg
                obtain ⟨oi', hoi', l', hl', rfl⟩ := hg
                rw [hoi] at hoi'; injection hoi' with hoi'; subst hoi'
                simp only [pOpers, Option.bind_eq_some_iff, Option.map_eq_some_iff] at hp
                obtain ⟨ai, hai, al', hal, rfl⟩ := hp
                refine ⟨fun he => (by rw [hready] at he; cases he), fun m hm => ?_⟩
                have hcd' := hcd.set hm
                rw [hready] at hm
                simp only [List.mem_cons, List.not_mem_nil, or_false] at hm
                rcases hm with rfl | rfl
                · exact late_step hcl hoi (.inl hci) hai hr h (RR := fun S C a w => wpAnyX (pureAt P sg hs ops) P .any ops Q fuel (listed.setIfInBounds m true) S C a w) (fun st' a' w' G' h1 h2 => ih hcd' hl1 hl' hal h1 h2 hQ)
                · exact late_step hcl hoj (.inl hcj) g2 g5 h (RR := fun S C a w => wpAnyX (pureAt P sg hs ops) P .any ops Q fuel (listed.setIfInBounds m true) S C a w) (fun st' a' w' G' h1 h2 => ih hcd' hl2 g3 g4 h1 h2 hQ)
              · split at hc
                · rename_i hbub
                  injection hc with hc; subst hc
                  obtain ⟨oj', aj, lr2, al2, g1, g2, g3, g4, g5⟩ := bubble_sound hbub hg hp hr
                  rw [hoi] at g1; injection g1 with g1; subst g1
                  simp only [getAll, Option.bind_eq_some_iff, Option.map_eq_some_iff] at hg
                  obtain ⟨oi', hoi', l', hl', rfl⟩ := hg
                  rw [hoj] at hoi'; injection hoi' with hoi'; subst hoi'
                  simp only [pOpers, Option.bind_eq_some_iff, Option.map_eq_some_iff] at hp
                  obtain ⟨ai, hai, al', hal, rfl⟩ := hp
                  refine ⟨fun he => (by rw [hready] at he; cases he), fun m hm => ?_⟩
                  have hcd' := hcd.set hm
                  rw [hready] at hm
                  simp only [List.mem_cons, List.not_mem_nil, or_false] at hm
                  rcases hm with rfl | rfl
                  · exact late_step hcl hoi (.inl hci) g2 g5 h (RR := fun S C a w => wpAnyX (pureAt P sg hs ops) P .any ops Q fuel (listed.setIfInBounds m true) S C a w) (fun st' a' w' G' h1 h2 => ih hcd' hl1 g3 g4 h1 h2 hQ)
                  · exact late_step hcl hoj (.inl hcj) hai hr h (RR := fun S C a w => wpAnyX (pureAt P sg hs ops) P .any ops Q fuel (listed.setIfInBounds m true) S C a w) (fun st' a' w' G' h1 h2 => ih hcd' hl2 hl' hal h1 h2 hQ)
                · cases hc
            · cases hc
          · cases hc
        · cases hc

theorem region_draw_sound (hcl : CallOk P cl) (hm : P.follows .mixedOrders = true) {id : Nat} {l : List Oper} {al : List AOper} {k : St → T β} {R : β → Prop} (hQp : ∀ c a w, ¬ Q (.panic c) a w)
    (hc : canonOf P sg hs ops = some l) (hp : pOpers P sg hs n ops.toList l = some al) (hr : (opsK cl al st k).All R) (h : SR w0 F0 A n st a w G)
    (hQ : ∀ st' a' w' G', (k st').All R → SR w0 F0 A n st' a' w' G' → Q .normal a' w') : (Code.region id ops true).wp P Q a w := by
  unfold canonOf at hc
  split at hc
  · cases hc
  · rename_i hns
    simp only [Option.bind_eq_some_iff] at hc
    obtain ⟨idx, hc, hg⟩ := hc
    have hsel : ∀ (j : Nat) (o : Oper) cs b, ops[j]? = some o → o.op ≠ .select cs b := by
      intro j o cs b hj he
      apply hns
      rw [List.any_eq_true]
      refine ⟨o, ?_, by simp [isSelect, he]⟩
      obtain ⟨hlt, hjo⟩ := Array.getElem?_eq_some_iff.1 hj
      rw [← hjo]; exact Array.getElem_mem_toList hlt
    have h' : SR w0 F0 A n st a { w with drawn := w.drawn + 1 } G := by
      have := h.world (w' := { w with drawn := w.drawn + 1 }) (fun _ => False) (fun _ h => h.elim) ⟨rfl, rfl, rfl, Nat.le_refl _, fun _ _ _ => rfl⟩ (Fr' := G.Fr) ⟨fun _ => Nat.le_refl _, fun _ _ _ _ h => h, fun _ _ h => h, fun _ cs _ _ h => ⟨cs, h⟩⟩ (fun _ _ _ => rfl) h.fresh h.heap.ids
      exact this
    exact wp_region_any hm (wpAny_of_X _ _ _ _ _ _ (draw_sound hcl hsel hQp (fun j oj _ hl => by simp [Array.getElem?_replicate] at hl; split at hl <;> simp at hl) hc hg hp hr h' hQ))

end Go.Proofs.YtjlioidknhdceaaDoor.Abs
