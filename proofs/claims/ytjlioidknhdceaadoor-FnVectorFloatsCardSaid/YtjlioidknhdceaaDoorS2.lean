/- Operations that touch no box: what they read and write are their slots. -/
import Derived.Test.YtjlioidknhdceaaDoorX2
namespace Go.Proofs.YtjlioidknhdceaaDoor.Abs
set_option linter.all false

structure Fram (L : List Nat) (st st' st2 st2' : St) : Prop where
  b1 : st'.b = st.b
  b2 : st2'.b = st2.b
  o1 : ∀ m, m ∉ L → st'.s m = st.s m
  o2 : ∀ m, m ∉ L → st2'.s m = st2.s m
  ag : ∀ m, m ∈ L → st2'.s m = st'.s m
  h1 : st'.h = st.h
  h2 : st2'.h = st2.h

theorem Fram.refl {L : List Nat} {st st2 : St} (h : ∀ m, m ∈ L → st2.s m = st.s m) : Fram L st st st2 st2 := ⟨rfl, rfl, fun _ _ => rfl, fun _ _ => rfl, h, rfl, rfl⟩
theorem Fram.trans {L : List Nat} {a b c a2 b2 c2 : St} (h : Fram L a b a2 b2) (k : Fram L b c b2 c2) : Fram L a c a2 c2 :=
  ⟨k.b1.trans h.b1, k.b2.trans h.b2, fun m hm => (k.o1 m hm).trans (h.o1 m hm), fun m hm => (k.o2 m hm).trans (h.o2 m hm), k.ag, k.h1.trans h.h1, k.h2.trans h.h2⟩
theorem Fram.set {L : List Nat} {st st2 : St} {n : Nat} (hn : n ∈ L) (h : ∀ m, m ∈ L → st2.s m = st.s m) (v : AV) : Fram L st (st.set n v) st2 (st2.set n v) := by
  refine ⟨rfl, rfl, fun m hm => ?_, fun m hm => ?_, fun m hm => ?_, rfl, rfl⟩
  · exact upd_ne _ _ _ _ (fun e => hm (e ▸ hn))
  · exact upd_ne _ _ _ _ (fun e => hm (e ▸ hn))
  · simp only [St.set, upd]; split; { rfl }; { exact h m hm }

section
variable {L : List Nat} {st st2 : St} {x : AX}

theorem peek_fram (hx : ∀ n ∈ x.slots, n ∈ L) (h : ∀ m, m ∈ L → st2.s m = st.s m) : peek st2 x = peek st x := by
  cases x with
  | t n => simp only [peek]; rw [h n (hx n (by simp [AX.slots]))]
  | m n => simp only [peek]; rw [h n (hx n (by simp [AX.slots]))]
  | u n => simp only [peek]; rw [h n (hx n (by simp [AX.slots]))]
  | f n => simp only [peek]; rw [h n (hx n (by simp [AX.slots]))]
  | p n => simp only [peek]; rw [h n (hx n (by simp [AX.slots]))]
  | c v => rfl

theorem give_fram (hw : x.still = true) (hx : ∀ n ∈ x.slots, n ∈ L) (h : ∀ m, m ∈ L → st2.s m = st.s m) : (give st2 x).1 = (give st x).1 ∧ Fram L st (give st x).2 st2 (give st2 x).2 := by
  cases x with
  | t n =>
    have e := h n (hx n (by simp [AX.slots]))
    simp only [give]; rw [e]
    exact ⟨rfl, Fram.set (hx n (by simp [AX.slots])) h _⟩
  | p n => simp only [give]; rw [h n (hx n (by simp [AX.slots]))]; exact ⟨rfl, Fram.refl h⟩
  | c v => exact ⟨rfl, Fram.refl h⟩
  | m n => cases hw
  | u n => cases hw
  | f n => cases hw

theorem take_fram (hw : x.still = true) (hx : ∀ n ∈ x.slots, n ∈ L) (h : ∀ m, m ∈ L → st2.s m = st.s m) : (take st2 x).1 = (take st x).1 ∧ Fram L st (take st x).2 st2 (take st2 x).2 := by
  cases x with
  | t n =>
    have e := h n (hx n (by simp [AX.slots]))
    simp only [take]; rw [e]
    exact ⟨rfl, Fram.set (hx n (by simp [AX.slots])) h _⟩
  | p n => simp only [take]; rw [h n (hx n (by simp [AX.slots]))]; exact ⟨rfl, Fram.refl h⟩
  | c v => exact ⟨rfl, Fram.refl h⟩
  | m n => cases hw
  | u n => cases hw
  | f n => cases hw

theorem copy_fram (m : Mode) (hw : x.still = true) (hx : ∀ n ∈ x.slots, n ∈ L) (h : ∀ m, m ∈ L → st2.s m = st.s m) : (copy m st2 x).1 = (copy m st x).1 ∧ Fram L st (copy m st x).2 st2 (copy m st2 x).2 := by
  cases x with
  | t n =>
    have e := h n (hx n (by simp [AX.slots]))
    simp only [copy]; rw [e]
    exact ⟨rfl, Fram.set (hx n (by simp [AX.slots])) h _⟩
  | p n => simp only [copy]; rw [h n (hx n (by simp [AX.slots]))]; exact ⟨rfl, Fram.refl h⟩
  | c v => exact ⟨rfl, Fram.refl h⟩
  | m n => cases hw
  | u n => cases hw
  | f n => cases hw
end

theorem fillK_fram {L : List Nat} : ∀ {l : List (Nat × Nat × AX)} {cs : List AV} {st : St}, (∀ q ∈ l, q.2.2.still = true ∧ ∀ n ∈ q.2.2.slots, n ∈ L) →
    ∃ o st', (∀ {γ : Type} (k' : List AV → St → T γ), fillK l cs st k' = T.on o fun cs' => k' cs' st') ∧
      ∀ st2 : St, (∀ m, m ∈ L → st2.s m = st.s m) → ∃ st2', Fram L st st' st2 st2' ∧ ∀ {γ : Type} (k' : List AV → St → T γ), fillK l cs st2 k' = T.on o fun cs' => k' cs' st2'
  | [], cs, st, _ => ⟨some cs, st, fun _ => rfl, fun st2 h => ⟨st2, Fram.refl h, fun _ => rfl⟩⟩
  | (off, n, x) :: l, cs, st, hl => by
    have f0 : ∀ {st2 : St}, (∀ m, m ∈ L → st2.s m = st.s m) → _ := fun {st2} h => give_fram (st2 := st2) (hl _ List.mem_cons_self).1 (hl _ List.mem_cons_self).2 h
    cases h1 : fillV cs off n (give st x).1 with
    | none => exact ⟨none, st, fun k' => by simp only [fillK, h1, T.on], fun st2 h => ⟨st2, Fram.refl h, fun k' => by simp only [fillK, (f0 h).1, h1, T.on]⟩⟩
    | some cs1 =>
      obtain ⟨o, st', g3, g4⟩ := fillK_fram (cs := cs1) (st := (give st x).2) (fun q hq => hl q (List.mem_cons_of_mem _ hq))
      refine ⟨o, st', fun k' => by simp only [fillK, h1]; exact g3 k', fun st2 h => ?_⟩
      obtain ⟨e1, f1⟩ := f0 h
      obtain ⟨st2', g5, g6⟩ := g4 _ f1.ag
      exact ⟨st2', f1.trans g5, fun k' => by simp only [fillK, e1, h1]; exact g6 k'⟩

theorem argsK_fram {L : List Nat} : ∀ {l : List (AX × Bool)} {st : St}, (∀ q ∈ l, q.1.still = true ∧ ∀ n ∈ q.1.slots, n ∈ L) →
    ∃ o st', (∀ {γ : Type} (k' : List AV → St → T γ), argsK l st k' = T.on o fun vs => k' vs st') ∧
      ∀ st2 : St, (∀ m, m ∈ L → st2.s m = st.s m) → ∃ st2', Fram L st st' st2 st2' ∧ ∀ {γ : Type} (k' : List AV → St → T γ), argsK l st2 k' = T.on o fun vs => k' vs st2'
  | [], st, _ => ⟨some [], st, fun _ => rfl, fun st2 h => ⟨st2, Fram.refl h, fun _ => rfl⟩⟩
  | (x, true) :: l, st, hl => by
    have f0 : ∀ {st2 : St}, (∀ m, m ∈ L → st2.s m = st.s m) → _ := fun {st2} h => take_fram (st2 := st2) (hl _ List.mem_cons_self).1 (hl _ List.mem_cons_self).2 h
    cases h1 : pln (take st x).1 with
    | none => exact ⟨none, st, fun k' => by simp only [argsK, h1, T.on], fun st2 h => ⟨st2, Fram.refl h, fun k' => by simp only [argsK, (f0 h).1, h1, T.on]⟩⟩
    | some u =>
      obtain ⟨o, st', g3, g4⟩ := argsK_fram (st := (take st x).2) (fun q hq => hl q (List.mem_cons_of_mem _ hq))
      refine ⟨o.map fun vs => (take st x).1 :: vs, st', fun k' => ?_, fun st2 h => ?_⟩
      · simp only [argsK, h1]; rw [T.on, g3]; cases o <;> rfl
      · obtain ⟨e1, f1⟩ := f0 h
        obtain ⟨st2', g5, g6⟩ := g4 _ f1.ag
        refine ⟨st2', f1.trans g5, fun k' => ?_⟩
        simp only [argsK, e1, h1]; rw [T.on, g6]; cases o <;> rfl
  | (x, false) :: l, st, hl => by
    have f0 : ∀ {st2 : St}, (∀ m, m ∈ L → st2.s m = st.s m) → _ := fun {st2} h => give_fram (st2 := st2) (hl _ List.mem_cons_self).1 (hl _ List.mem_cons_self).2 h
    cases h1 : pln (give st x).1 with
    | none => exact ⟨none, st, fun k' => by simp only [argsK, h1, T.on], fun st2 h => ⟨st2, Fram.refl h, fun k' => by simp only [argsK, (f0 h).1, h1, T.on]⟩⟩
    | some u =>
      obtain ⟨o, st', g3, g4⟩ := argsK_fram (st := (give st x).2) (fun q hq => hl q (List.mem_cons_of_mem _ hq))
      refine ⟨o.map fun vs => (give st x).1 :: vs, st', fun k' => ?_, fun st2 h => ?_⟩
      · simp only [argsK, h1]; rw [T.on, g3]; cases o <;> rfl
      · obtain ⟨e1, f1⟩ := f0 h
        obtain ⟨st2', g5, g6⟩ := g4 _ f1.ag
        refine ⟨st2', f1.trans g5, fun k' => ?_⟩
        simp only [argsK, e1, h1]; rw [T.on, g6]; cases o <;> rfl

theorem on_bind {α β : Type} (o : Option α) (f : α → T β) : T.on o f = (T.ofO o).bind f := by cases o <;> rfl
theorem bind_bind {α β γ : Type} (f : α → T β) (g : β → T γ) : ∀ x : T α, (x.bind f).bind g = x.bind fun a => (f a).bind g
  | .ret _ => rfl
  | .fail => rfl
  | .pick n k => by simp only [T.bind]; congr 1; funext d; exact bind_bind f g (k d)
theorem on_bind2 {α β γ : Type} (o : Option α) (f : α → T β) (g : β → T γ) : (T.on o f).bind g = T.on o fun a => (f a).bind g := by cases o <;> rfl

theorem opK_fram {cl : FuncId → List AV → H → T (AV × H)} {L F : List Nat} {x : AOp} (hw : x.still = true) (hf : x.foot = some F) (hL : ∀ n ∈ F, n ∈ L) (st : St) :
    ∃ (t : T AV) (st' : St), (∀ {γ : Type} (k' : AV → St → T γ), opK cl x st k' = t.bind fun v => k' v st') ∧
      ∀ st2 : St, (∀ m, m ∈ L → st2.s m = st.s m) → st2.h = st.h → ∃ st2', Fram L st st' st2 st2' ∧ ∀ {γ : Type} (k' : AV → St → T γ), opK cl x st2 k' = t.bind fun v => k' v st2' := by
  by_cases hpx : ∃ o args, x = .px o args
  · obtain ⟨o, args, rfl⟩ := hpx
    have hfo : F = args.flatMap AX.slots := by
      cases o <;> simp [AOp.foot] at hf <;> exact hf.symm
    subst hfo
    refine ⟨_, _, fun k' => by simp only [opK]; rw [on_bind], fun st2 h hh => ?_⟩
    have e1 : args.map (peek st2) = args.map (peek st) := List.map_congr_left fun y hy => peek_fram (fun n hn => hL n (List.mem_flatMap.2 ⟨y, hy, hn⟩)) h
    exact ⟨_, Fram.refl h, fun k' => by simp only [opK, e1, hh]; rw [on_bind]⟩
  by_cases hmk : ∃ o e sz b z y1 y2, x = AOp.mkSl o e sz b z y1 y2
  · obtain ⟨obj, e, sz, by', z, x, y, rfl⟩ := hmk
    clear hpx
    cases obj with
    | true => simp [AOp.foot] at hf
    | false =>
      simp only [AOp.foot, Option.some.injEq] at hf; subst hf
      have em : ∀ s : St, mkV false e sz by' z (peek s x) (peek s y) s = ((mkN by' (peek s x) (peek s y)).map fun q => AV.slice (.own true) e sz (repCells q.1 z)).map fun v => (v, s) := fun s => by
        unfold mkV; cases mkN by' (peek s x) (peek s y) <;> rfl
      have eo : ∀ {γ : Type} (s : St) (k' : AV → St → T γ), opK cl (.mkSl false e sz by' z x y) s k' = (T.ofO ((mkN by' (peek s x) (peek s y)).map fun q => AV.slice (.own true) e sz (repCells q.1 z))).bind fun v => k' v s := fun s k' => by
        simp only [opK]; rw [em]; cases mkN by' (peek s x) (peek s y) <;> rfl
      refine ⟨_, _, fun k' => eo st k', fun st2 h hh => ?_⟩
      have e1 := peek_fram (x := x) (fun n hn => hL n (List.mem_append_left _ hn)) h
      have e2 := peek_fram (x := y) (fun n hn => hL n (List.mem_append_right _ hn)) h
      exact ⟨_, Fram.refl h, fun k' => by rw [eo, e1, e2]⟩
  cases x <;> (try exact absurd ⟨_, _, rfl⟩ hpx) <;> (try exact absurd ⟨_, _, _, _, _, _, _, rfl⟩ hmk) <;> simp only [AOp.foot, Option.some.injEq, reduceCtorEq] at hf <;> subst hf
  case move m x =>
    refine ⟨.ret _, _, fun _ => rfl, fun st2 h hh => ?_⟩
    obtain ⟨e1, f1⟩ := copy_fram m hw hL h
    exact ⟨_, f1, fun k' => by simp only [opK, e1]; rfl⟩
  case assign x =>
    refine ⟨.ret _, _, fun _ => rfl, fun st2 h hh => ?_⟩
    obtain ⟨e1, f1⟩ := take_fram hw hL h
    exact ⟨_, f1, fun k' => by simp only [opK, e1]; rfl⟩
  case build z parts =>
    obtain ⟨o, st', g3, g4⟩ := fillK_fram (L := L) (cs := z) (st := st) (fun q hq => ⟨List.all_eq_true.1 hw q hq, fun n hn => hL n (List.mem_flatMap.2 ⟨q, hq, hn⟩)⟩)
    refine ⟨T.on o fun cs => .ret (.agg cs), st', fun k' => ?_, fun st2 h hh => ?_⟩
    · simp only [opK]; rw [g3, on_bind2]; rfl
    · obtain ⟨st2', g5, g6⟩ := g4 st2 h
      exact ⟨st2', g5, fun k' => by simp only [opK]; rw [g6, on_bind2]; rfl⟩
  case buildSl e sz z parts =>
    obtain ⟨o, st', g3, g4⟩ := fillK_fram (L := L) (cs := z) (st := st) (fun q hq => ⟨List.all_eq_true.1 hw q hq, fun n hn => hL n (List.mem_flatMap.2 ⟨q, hq, hn⟩)⟩)
    refine ⟨T.on o fun cs => .ret (.slice (.own true) e sz cs), st', fun k' => ?_, fun st2 h hh => ?_⟩
    · simp only [opK]; rw [g3, on_bind2]; rfl
    · obtain ⟨st2', g5, g6⟩ := g4 st2 h
      exact ⟨st2', g5, fun k' => by simp only [opK]; rw [g6, on_bind2]; rfl⟩
  case call f args =>
    obtain ⟨o, st', g3, g4⟩ := argsK_fram (L := L) (st := st) (fun q hq => ⟨List.all_eq_true.1 hw q hq, fun n hn => hL n (List.mem_flatMap.2 ⟨q, hq, hn⟩)⟩)
    refine ⟨T.on o fun vs => (cl f vs st'.h.mask).bind fun q => T.on (noHeap st'.h.n q) .ret, st', fun k' => ?_, fun st2 h hh => ?_⟩
    · simp only [opK]; rw [g3, on_bind2]; congr 1; funext vs; rw [bind_bind]; congr 1; funext q; rw [on_bind2]; rfl
    · obtain ⟨st2', g5, g6⟩ := g4 st2 h
      have e : st2'.h = st'.h := by rw [g5.h1, g5.h2, hh]
      refine ⟨st2', g5, fun k' => ?_⟩
      simp only [opK]; rw [g6, on_bind2, e]; congr 1; funext vs; rw [bind_bind]; congr 1; funext q; rw [on_bind2]; rfl
  case convBS x =>
    refine ⟨_, _, fun k' => by simp only [opK]; rw [on_bind], fun st2 h hh => ?_⟩
    obtain ⟨e1, f1⟩ := give_fram hw hL h
    have e : (give st2 x).2.h = (give st x).2.h := by rw [f1.h1, f1.h2, hh]
    exact ⟨_, f1, fun k' => by simp only [opK, e, e1]; rw [on_bind]⟩
  case mkIface t x =>
    refine ⟨_, _, fun k' => by simp only [opK]; rw [on_bind], fun st2 h hh => ?_⟩
    obtain ⟨e1, f1⟩ := give_fram hw hL h
    exact ⟨_, f1, fun k' => by simp only [opK, e1]; rw [on_bind]⟩
  case append e sz by' str x y =>
    have hLx : ∀ n ∈ x.slots, n ∈ L := fun n hn => hL n (List.mem_append_left _ hn)
    have hLy : ∀ n ∈ y.slots, n ∈ L := fun n hn => hL n (List.mem_append_right _ hn)
    refine ⟨_, _, fun k' => by simp only [opK]; rw [on_bind], fun st2 h hh => ?_⟩
    obtain ⟨e1, f1⟩ := take_fram hw hLx h
    have e2 := peek_fram hLy h
    have e : (take st2 x).2.h = (take st x).2.h := by rw [f1.h1, f1.h2, hh]
    exact ⟨_, f1, fun k' => by simp only [opK, e, e1, e2]; rw [on_bind]⟩
  case bin op kd lit x y =>
    refine ⟨_, _, fun k' => by simp only [opK]; rw [on_bind], fun st2 h hh => ?_⟩
    have e1 := peek_fram (x := x) (fun n hn => hL n (List.mem_append_left _ hn)) h
    have e2 := peek_fram (x := y) (fun n hn => hL n (List.mem_append_right _ hn)) h
    exact ⟨_, Fram.refl h, fun k' => by simp only [opK, e1, e2]; rw [on_bind]⟩
  case extract t i =>
    refine ⟨T.ofO ((exV (st.s t) i).map (·.1)), (match exV (st.s t) i with | some q => st.set t q.2 | none => st), fun k' => ?_, fun st2 h hh => ?_⟩
    · simp only [opK]; cases exV (st.s t) i <;> rfl
    · have e := h t (hL t (by simp))
      cases hq : exV (st.s t) i with
      | none => exact ⟨st2, Fram.refl h, fun k' => by simp only [opK, e, hq]; rfl⟩
      | some q => exact ⟨st2.set t q.2, Fram.set (hL t (by simp)) h _, fun k' => by simp only [opK, e, hq]; rfl⟩
  case indexStr x y =>
    refine ⟨_, _, fun k' => by simp only [opK]; rw [on_bind], fun st2 h hh => ?_⟩
    have e1 := peek_fram (x := x) (fun n hn => hL n (List.mem_append_left _ hn)) h
    have e2 := peek_fram (x := y) (fun n hn => hL n (List.mem_append_right _ hn)) h
    exact ⟨_, Fram.refl h, fun k' => by simp only [opK, e1, e2]; rw [on_bind]⟩
  all_goals
    rename_i x
    refine ⟨_, _, fun k' => by simp only [opK]; rw [on_bind], fun st2 h hh => ?_⟩
    have e1 := peek_fram (x := x) hL h
    exact ⟨_, Fram.refl h, fun k' => by simp only [opK, e1]; rw [on_bind]⟩

theorem All_forall {α : Type} {n : Nat} {P : Nat → α → Prop} : ∀ {t : T α}, (∀ d, d ≤ n → t.All (P d)) → t.All fun a => ∀ d, d ≤ n → P d a
  | .ret _, h => h
  | .fail, h => h 0 (Nat.zero_le _)
  | .pick _ k, h => fun e he => All_forall fun d hd => h d hd e he
theorem All_swap {α β : Type} {P : α → β → Prop} {ty : T β} : ∀ {tx : T α}, (tx.All fun v => ty.All fun u => P v u) → ty.All fun u => tx.All fun v => P v u
  | .ret _, h => h
  | .fail, h => h.elim
  | .pick _ k, h => All_forall fun d hd => All_swap (h d hd)

theorem swap_box {β : Type} {cl : FuncId → List AV → H → T (AV × H)} {x y : AOper} (h : boxOk x y = true) {l : List AOper} {st : St} {k : St → T β} {R : β → Prop}
    (hr : (opsK cl (x :: y :: l) st k).All R) : (opsK cl (y :: x :: l) st k).All R := by
  obtain ⟨xop, xd, xg⟩ := x
  obtain ⟨yop, yd, yg⟩ := y
  unfold boxOk at h
  split at h
  · rename_i d cs d' dx fx h1 h2 h3 h4 h5 h6
    simp only at h1 h2 h3 h4 h5 h6
    subst h1; subst h2; subst h3; subst h4; subst h5
    simp only [Bool.and_eq_true, beq_iff_eq, Bool.not_eq_true', beq_eq_false_iff_ne, ne_eq] at h
    obtain ⟨⟨⟨rfl, wx⟩, hdx⟩, hd⟩ := h
    have hd : d' ∉ fx := by
      intro hm
      have : fx.contains d' = true := List.contains_iff_mem.2 hm
      rw [this] at hd; cases hd
    simp only [opsK] at hr ⊢
    obtain ⟨tx, st1, ex, fx'⟩ := opK_fram (cl := cl) (L := fx) wx h6 (fun _ h => h) st
    obtain ⟨st1z, f1, _⟩ := fx' st (fun _ _ => rfl) rfl
    rw [ex, T.All_bind] at hr
    have hbd : st.b d' = none := by
      obtain ⟨v, hv⟩ := hr.ex
      simp only [opK] at hv
      have e : (st1.put (some dx) v).b = st.b := f1.b1
      rw [e] at hv
      cases hb : st.b d' with
      | none => rfl
      | some o => rw [hb] at hv; exact hv.elim
    have hN : ∀ (s : St) (k' : AV → St → T β), s.b d' = none → opK cl (.newbox1 d' cs) s k' = k' (.ptr (.loc d') 0) ⟨s.s, upd s.b d' (some (.cells cs)), s.h⟩ := fun s k' hs => by simp only [opK, hs]
    rw [hN st _ hbd]
    obtain ⟨st2', f2, ex2⟩ := fx' ((⟨st.s, upd st.b d' (some (.cells cs)), st.h⟩ : St).put (some d') (.ptr (.loc d') 0)) (fun m hm => by
      have hne : m ≠ d' := fun e => hd (e ▸ hm)
      simp only [St.put, St.set]; rw [upd_ne _ _ _ _ hne]) rfl
    rw [ex2, T.All_bind]
    refine T.All.mono (fun v hv => ?_) hr
    simp only [opK] at hv
    have e : (st1.put (some dx) v).b = st.b := f1.b1
    rw [e, hbd] at hv
    have key : st2'.put (some dx) v = (⟨(st1.put (some dx) v).s, upd st.b d' (some (.cells cs)), (st1.put (some dx) v).h⟩ : St).put (some d') (.ptr (.loc d') 0) := by
      have hs : (st2'.put (some dx) v).s = ((⟨(st1.put (some dx) v).s, upd st.b d' (some (.cells cs)), (st1.put (some dx) v).h⟩ : St).put (some d') (.ptr (.loc d') 0)).s := by
        funext m
        simp only [St.put, St.set, upd]
        by_cases m1 : m = dx
        · have : m ≠ d' := fun e => hdx (m1 ▸ e)
          rw [if_pos m1, if_neg this, if_pos m1]
        · rw [if_neg m1]
          by_cases m2 : m = d'
          · rw [if_pos m2, f2.o2 m (fun hm => hd (m2 ▸ hm))]
            simp only [St.put, St.set, upd]; rw [if_pos m2]
          · rw [if_neg m2, if_neg m1]
            by_cases m3 : m ∈ fx
            · exact f2.ag m m3
            · rw [f2.o2 m m3, f1.o1 m m3]
              simp only [St.put, St.set, upd]; rw [if_neg m2]
      have hb : (st2'.put (some dx) v).b = upd st.b d' (some (.cells cs)) := f2.b2
      have hh : (st2'.put (some dx) v).h = st1.h := by
        show st2'.h = st1.h
        rw [f2.h2, f1.h1]; rfl
      have : ∀ a b : St, a.s = b.s → a.b = b.b → a.h = b.h → a = b := fun a b h1 h2 h3 => by cases a; cases b; simp_all
      exact this _ _ hs hb hh
    rw [key]
    exact hv
  · cases h

theorem swap_ops {β : Type} {cl : FuncId → List AV → H → T (AV × H)} {x y : AOper} (h : swapOk x y = true) {l : List AOper} {st : St} {k : St → T β} {R : β → Prop}
    (hr : (opsK cl (x :: y :: l) st k).All R) : (opsK cl (y :: x :: l) st k).All R := by
  obtain ⟨xop, xd, xg⟩ := x
  obtain ⟨yop, yd, yg⟩ := y
  unfold swapOk at h
  split at h
  · rename_i dx dy fx fy h1 h2 h3 h4 h5 h6
    simp only at h1 h2 h3 h4 h5 h6
    subst h1; subst h2; subst h3; subst h4
    simp only [Bool.and_eq_true] at h
    obtain ⟨⟨wx, wy⟩, h⟩ := h
    have hne : ∀ m, m ∈ dx :: fx → m ∉ dy :: fy := fun m hm hm' => by
      have := List.all_eq_true.1 h m hm
      simp only [Bool.not_eq_true', ← Bool.not_eq_true, List.contains_iff_mem] at this
      exact this hm'
    simp only [opsK] at hr ⊢
    -- x from st, y from st
    obtain ⟨tx, st1, ex, fx'⟩ := opK_fram (cl := cl) (L := fx) wx h5 (fun _ h => h) st
    obtain ⟨ty, st2', ey, fy'⟩ := opK_fram (cl := cl) (L := fy) wy h6 (fun _ h => h) st
    obtain ⟨st1z, f1, _⟩ := fx' st (fun _ _ => rfl) rfl
    obtain ⟨st2z, f2z, _⟩ := fy' st (fun _ _ => rfl) rfl
    rw [ex, T.All_bind] at hr
    rw [ey, T.All_bind]
    simp only [St.put] at hr ⊢
    have keyA : ∀ v, ∃ stb : St, Fram fy st st2' (st1.set dx v) stb ∧ ∀ {γ : Type} (k' : AV → St → T γ), opK cl yop (st1.set dx v) k' = ty.bind fun u => k' u stb := by
      intro v
      have hag : ∀ m, m ∈ fy → (st1.set dx v).s m = st.s m := fun m hm => by
        have h1 : m ≠ dx := fun e => hne m (by rw [e]; exact List.mem_cons_self) (List.mem_cons_of_mem _ hm)
        have h2 : m ∉ fx := fun hf => hne m (List.mem_cons_of_mem _ hf) (List.mem_cons_of_mem _ hm)
        simp only [St.set]; rw [upd_ne _ _ _ _ h1, f1.o1 m h2]
      exact fy' (st1.set dx v) hag (by show st1.h = st.h; exact f1.h1)
    have keyB : ∀ u, ∃ sta : St, Fram fx st st1 (st2'.set dy u) sta ∧ ∀ {γ : Type} (k' : AV → St → T γ), opK cl xop (st2'.set dy u) k' = tx.bind fun v => k' v sta := by
      intro u
      have hag2 : ∀ m, m ∈ fx → (st2'.set dy u).s m = st.s m := fun m hm => by
        have h1 : m ≠ dy := fun e => hne m (List.mem_cons_of_mem _ hm) (by rw [e]; exact List.mem_cons_self)
        have h2 : m ∉ fy := fun hf => hne m (List.mem_cons_of_mem _ hm) (List.mem_cons_of_mem _ hf)
        simp only [St.set]; rw [upd_ne _ _ _ _ h1, f2z.o1 m h2]
      exact fx' (st2'.set dy u) hag2 (by show st2'.h = st.h; exact f2z.h1)
    have keyC : ∀ v u (st2 st1'' : St), Fram fy st st2' (st1.set dx v) st2 → Fram fx st st1 (st2'.set dy u) st1'' → st1''.set dx v = st2.set dy u := by
      intro v u st2 st1'' f2 f3
      have hst : (st1''.set dx v).s = (st2.set dy u).s ∧ (st1''.set dx v).b = (st2.set dy u).b ∧ (st1''.set dx v).h = (st2.set dy u).h := by
        refine ⟨funext fun m => ?_, ?_, ?_⟩
        · simp only [St.set, upd]
          by_cases h1 : m = dx
          · have h2 : m ≠ dy := fun e => hne m (by rw [h1]; exact List.mem_cons_self) (by rw [e]; exact List.mem_cons_self)
            have h3 : m ∉ fy := fun hf => hne m (by rw [h1]; exact List.mem_cons_self) (List.mem_cons_of_mem _ hf)
            rw [if_pos h1, if_neg h2, f2.o2 m h3]; simp only [St.set, upd]; rw [if_pos h1]
          · rw [if_neg h1]
            by_cases h2 : m = dy
            · have h3 : m ∉ fx := fun hf => hne m (List.mem_cons_of_mem _ hf) (by rw [h2]; exact List.mem_cons_self)
              rw [if_pos h2, f3.o2 m h3]; simp only [St.set, upd]; rw [if_pos h2]
            · rw [if_neg h2]
              by_cases h3 : m ∈ fx
              · have h4 : m ∉ fy := fun hf => hne m (List.mem_cons_of_mem _ h3) (List.mem_cons_of_mem _ hf)
                rw [f3.ag m h3, f2.o2 m h4]; simp only [St.set, upd]; rw [if_neg h1]
              · rw [f3.o2 m h3]; simp only [St.set, upd]; rw [if_neg h2]
                by_cases h4 : m ∈ fy
                · rw [f2.ag m h4]
                · rw [f2.o2 m h4, f2z.o1 m h4]; simp only [St.set, upd]; rw [if_neg h1, f1.o1 m h3]
        · show st1''.b = st2.b
          rw [f3.b2, f2.b2]; show st2'.b = st1.b
          rw [f2z.b1, f1.b1]
        · show st1''.h = st2.h
          rw [f3.h2, f2.h2]; show st2'.h = st1.h
          rw [f2z.h1, f1.h1]
      have : ∀ a b : St, a.s = b.s → a.b = b.b → a.h = b.h → a = b := fun a b h1 h2 h3 => by cases a; cases b; simp_all
      exact this _ _ hst.1 hst.2.1 hst.2.2
    have hr2 : tx.All fun v => ty.All fun u => (opsK cl l ((keyA v).choose.set dy u) k).All R := by
      refine T.All.mono (fun v hv => ?_) hr
      rw [(keyA v).choose_spec.2, T.All_bind] at hv
      exact hv
    refine T.All.mono (fun u hu => ?_) (All_swap hr2)
    rw [(keyB u).choose_spec.2, T.All_bind]
    refine T.All.mono (fun v hv => ?_) hu
    rw [keyC v u _ _ (keyA v).choose_spec.1 (keyB u).choose_spec.1]
    exact hv
  · cases h

end Go.Proofs.YtjlioidknhdceaaDoor.Abs
