/- Operations that touch no box: what they read and write are their slots. -/
import Derived.Test.YtfamhjnjlgdglaaA19
namespace Go.Proofs.Ytfamhjnjlgdglaa.Abs
set_option linter.all false

/-- Two runs, side by side, from states that agree on L: they change nothing but L, and agree on it. -/
structure Fram (L : List Nat) (st st' st2 st2' : St) : Prop where
  b1 : st'.b = st.b
  b2 : st2'.b = st2.b
  o1 : ∀ m, m ∉ L → st'.s m = st.s m
  o2 : ∀ m, m ∉ L → st2'.s m = st2.s m
  ag : ∀ m, m ∈ L → st2'.s m = st'.s m
  h1 : st'.h = st.h
  h2 : st2'.h = st2.h

theorem Fram.refl {L : List Nat} {st st2 : St} (h : ∀ m, m ∈ L → st2.s m = st.s m) : Fram L st st st2 st2 := ⟨rfl, rfl, fun _ _ => rfl, fun _ _ => rfl, h, rfl, rfl⟩
theorem Fram.trans {L : List Nat} {a b c a2 b2 c2 : St} (h : Fram L a b a2 b2) (k : Fram L b c b2 c2) : Fram L a c a2 c2 :=
  ⟨k.b1.trans h.b1, k.b2.trans h.b2, fun m hm => (k.o1 m hm).trans (h.o1 m hm), fun m hm => (k.o2 m hm).trans (h.o2 m hm), k.ag, k.h1.trans h.h1, k.h2.trans h.h2⟩
theorem Fram.set {L : List Nat} {st st2 : St} {n : Nat} (hn : n ∈ L) (h : ∀ m, m ∈ L → st2.s m = st.s m) (v : AV) : Fram L st (st.set n v) st2 (st2.set n v) := by
  refine ⟨rfl, rfl, fun m hm => ?_, fun m hm => ?_, fun m hm => ?_, rfl, rfl⟩
  · exact upd_ne _ _ _ _ (fun e => hm (e ▸ hn))
  · exact upd_ne _ _ _ _ (fun e => hm (e ▸ hn))
  · simp only [St.set, upd]; split; { rfl }; { exact h m hm }

section
variable {L : List Nat} {st st2 : St} {x : AX}

theorem peek_fram (hx : ∀ n ∈ x.slots, n ∈ L) (h : ∀ m, m ∈ L → st2.s m = st.s m) : peek st2 x = peek st x := by
  cases x with
  | t n => simp only [peek]; rw [h n (hx n (by simp [AX.slots]))]
  | m n => simp only [peek]; rw [h n (hx n (by simp [AX.slots]))]
  | u n => simp only [peek]; rw [h n (hx n (by simp [AX.slots]))]
  | f n => simp only [peek]; rw [h n (hx n (by simp [AX.slots]))]
  | p n => simp only [peek]; rw [h n (hx n (by simp [AX.slots]))]
  | c v => rfl

theorem give_fram (hw : x.still = true) (hx : ∀ n ∈ x.slots, n ∈ L) (h : ∀ m, m ∈ L → st2.s m = st.s m) : (give st2 x).1 = (give st x).1 ∧ Fram L st (give st x).2 st2 (give st2 x).2 := by
  cases x with
  | t n =>
    have e := h n (hx n (by simp [AX.slots]))
    simp only [give]; rw [e]
    exact ⟨rfl, Fram.set (hx n (by simp [AX.slots])) h _⟩
  | p n => simp only [give]; rw [h n (hx n (by simp [AX.slots]))]; exact ⟨rfl, Fram.refl h⟩
  | c v => exact ⟨rfl, Fram.refl h⟩
  | m n => cases hw
  | u n => cases hw
  | f n => cases hw

theorem take_fram (hw : x.still = true) (hx : ∀ n ∈ x.slots, n ∈ L) (h : ∀ m, m ∈ L → st2.s m = st.s m) : (take st2 x).1 = (take st x).1 ∧ Fram L st (take st x).2 st2 (take st2 x).2 := by
  cases x with
  | t n =>
    have e := h n (hx n (by simp [AX.slots]))
    simp only [take]; rw [e]
    exact ⟨rfl, Fram.set (hx n (by simp [AX.slots])) h _⟩
  | p n => simp only [take]; rw [h n (hx n (by simp [AX.slots]))]; exact ⟨rfl, Fram.refl h⟩
  | c v => exact ⟨rfl, Fram.refl h⟩
  | m n => cases hw
  | u n => cases hw
  | f n => cases hw

theorem copy_fram (m : Mode) (hw : x.still = true) (hx : ∀ n ∈ x.slots, n ∈ L) (h : ∀ m, m ∈ L → st2.s m = st.s m) : (copy m st2 x).1 = (copy m st x).1 ∧ Fram L st (copy m st x).2 st2 (copy m st2 x).2 := by
  cases x with
  | t n =>
    have e := h n (hx n (by simp [AX.slots]))
    simp only [copy]; rw [e]
    exact ⟨rfl, Fram.set (hx n (by simp [AX.slots])) h _⟩
  | p n => simp only [copy]; rw [h n (hx n (by simp [AX.slots]))]; exact ⟨rfl, Fram.refl h⟩
  | c v => exact ⟨rfl, Fram.refl h⟩
  | m n => cases hw
  | u n => cases hw
  | f n => cases hw
end

theorem fillK_fram {β : Type} {L : List Nat} : ∀ {l : List (Nat × Nat × AX)} {cs : List AV} {st st2 : St} {k : List AV → St → Option β} {r : β}, (∀ q ∈ l, q.2.2.still = true ∧ ∀ n ∈ q.2.2.slots, n ∈ L) → (∀ m, m ∈ L → st2.s m = st.s m) → fillK l cs st k = some r →
    ∃ cs' st' st2', k cs' st' = some r ∧ Fram L st st' st2 st2' ∧ (∀ {γ : Type} (k' : List AV → St → Option γ), fillK l cs st k' = k' cs' st') ∧ ∀ {γ : Type} (k' : List AV → St → Option γ), fillK l cs st2 k' = k' cs' st2'
  | [], cs, st, st2, k, r, _, h, hr => ⟨cs, st, st2, hr, Fram.refl h, fun _ => rfl, fun _ => rfl⟩
  | (off, n, x) :: l, cs, st, st2, k, r, hl, h, hr => by
    simp only [fillK, obind_eq_some] at hr
    obtain ⟨cs1, h1, h2⟩ := hr
    obtain ⟨e1, f1⟩ := give_fram (hl _ List.mem_cons_self).1 (hl _ List.mem_cons_self).2 h
    obtain ⟨cs', st', st2', g1, g2, g3, g4⟩ := fillK_fram (st2 := (give st2 x).2) (fun q hq => hl q (List.mem_cons_of_mem _ hq)) f1.ag h2
    exact ⟨cs', st', st2', g1, f1.trans g2, fun k' => by simp only [fillK, h1, obind_some]; exact g3 k', fun k' => by simp only [fillK, e1, h1, obind_some]; exact g4 k'⟩

theorem argsK_fram {β : Type} {L : List Nat} : ∀ {l : List (AX × Bool)} {st st2 : St} {k : List AV → St → Option β} {r : β}, (∀ q ∈ l, q.1.still = true ∧ ∀ n ∈ q.1.slots, n ∈ L) → (∀ m, m ∈ L → st2.s m = st.s m) → argsK l st k = some r →
    ∃ vs st' st2', k vs st' = some r ∧ Fram L st st' st2 st2' ∧ (∀ {γ : Type} (k' : List AV → St → Option γ), argsK l st k' = k' vs st') ∧ ∀ {γ : Type} (k' : List AV → St → Option γ), argsK l st2 k' = k' vs st2'
  | [], st, st2, k, r, _, h, hr => ⟨[], st, st2, hr, Fram.refl h, fun _ => rfl, fun _ => rfl⟩
  | (x, true) :: l, st, st2, k, r, hl, h, hr => by
    simp only [argsK, obind_eq_some] at hr
    obtain ⟨u, h1, h2⟩ := hr
    obtain ⟨e1, f1⟩ := take_fram (hl _ List.mem_cons_self).1 (hl _ List.mem_cons_self).2 h
    obtain ⟨vs, st', st2', g1, g2, g3, g4⟩ := argsK_fram (st2 := (take st2 x).2) (fun q hq => hl q (List.mem_cons_of_mem _ hq)) f1.ag h2
    exact ⟨_, st', st2', g1, f1.trans g2, fun k' => by simp only [argsK, h1, obind_some]; exact g3 _, fun k' => by simp only [argsK, e1, h1, obind_some]; exact g4 _⟩
  | (x, false) :: l, st, st2, k, r, hl, h, hr => by
    simp only [argsK, obind_eq_some] at hr
    obtain ⟨u, h1, h2⟩ := hr
    obtain ⟨e1, f1⟩ := give_fram (hl _ List.mem_cons_self).1 (hl _ List.mem_cons_self).2 h
    obtain ⟨vs, st', st2', g1, g2, g3, g4⟩ := argsK_fram (st2 := (give st2 x).2) (fun q hq => hl q (List.mem_cons_of_mem _ hq)) f1.ag h2
    exact ⟨_, st', st2', g1, f1.trans g2, fun k' => by simp only [argsK, h1, obind_some]; exact g3 _, fun k' => by simp only [argsK, e1, h1, obind_some]; exact g4 _⟩

theorem opK_fram {β : Type} {cl : FuncId → List AV → H → Option (AV × H)} {L F : List Nat} {x : AOp} (hw : x.still = true) (hf : x.foot = some F) (hL : ∀ n ∈ F, n ∈ L) {st st2 : St} (h : ∀ m, m ∈ L → st2.s m = st.s m) (hh : st2.h = st.h) {k : AV → St → Option β} {r : β} (hr : opK cl x st k = some r) :
    ∃ v st' st2', k v st' = some r ∧ Fram L st st' st2 st2' ∧ (∀ {γ : Type} (k' : AV → St → Option γ), opK cl x st k' = k' v st') ∧ ∀ {γ : Type} (k' : AV → St → Option γ), opK cl x st2 k' = k' v st2' := by
  cases x <;> simp only [AOp.foot, Option.some.injEq, reduceCtorEq] at hf <;> subst hf
  case move m x =>
    obtain ⟨e1, f1⟩ := copy_fram m hw hL h
    exact ⟨_, _, _, hr, f1, fun _ => rfl, fun k' => by simp only [opK, e1]⟩
  case assign x =>
    obtain ⟨e1, f1⟩ := take_fram hw hL h
    exact ⟨_, _, _, hr, f1, fun _ => rfl, fun k' => by simp only [opK, e1]⟩
  case build z parts =>
    simp only [opK] at hr
    obtain ⟨cs', st', st2', g1, g2, g3, g4⟩ := fillK_fram (fun q hq => ⟨List.all_eq_true.1 hw q hq, fun n hn => hL n (List.mem_flatMap.2 ⟨q, hq, hn⟩)⟩) h hr
    exact ⟨_, st', st2', g1, g2, fun k' => by simp only [opK]; exact g3 _, fun k' => by simp only [opK]; exact g4 _⟩
  case buildSl e sz z parts =>
    simp only [opK] at hr
    obtain ⟨cs', st', st2', g1, g2, g3, g4⟩ := fillK_fram (fun q hq => ⟨List.all_eq_true.1 hw q hq, fun n hn => hL n (List.mem_flatMap.2 ⟨q, hq, hn⟩)⟩) h hr
    exact ⟨_, st', st2', g1, g2, fun k' => by simp only [opK]; exact g3 _, fun k' => by simp only [opK]; exact g4 _⟩
  case call f args =>
    simp only [opK] at hr
    obtain ⟨vs, st', st2', g1, g2, g3, g4⟩ := argsK_fram (fun q hq => ⟨List.all_eq_true.1 hw q hq, fun n hn => hL n (List.mem_flatMap.2 ⟨q, hq, hn⟩)⟩) h hr
    simp only [obind_eq_some] at g1
    obtain ⟨v, ⟨q, hq, hv⟩, g1⟩ := g1
    have e : st2'.h = st'.h := by rw [g2.h1, g2.h2, hh]
    exact ⟨v, st', st2', g1, g2, fun k' => by simp only [opK]; rw [g3]; simp only [hq, obind_some, hv], fun k' => by simp only [opK]; rw [g4, e]; simp only [hq, obind_some, hv]⟩
  case convBS x =>
    obtain ⟨e1, f1⟩ := give_fram hw hL h
    have e : (give st2 x).2.h = (give st x).2.h := by rw [f1.h1, f1.h2, hh]
    simp only [opK, obind_eq_some] at hr
    obtain ⟨v, hv, hr⟩ := hr
    exact ⟨v, _, _, hr, f1, fun k' => by simp only [opK, hv, obind_some], fun k' => by simp only [opK, e, e1, hv, obind_some]⟩
  case mkIface t x =>
    obtain ⟨e1, f1⟩ := give_fram hw hL h
    simp only [opK, obind_eq_some] at hr
    obtain ⟨v, hv, hr⟩ := hr
    exact ⟨v, _, _, hr, f1, fun k' => by simp only [opK, hv, obind_some], fun k' => by simp only [opK, e1, hv, obind_some]⟩
  case append e sz by' str x y =>
    have hLx : ∀ n ∈ x.slots, n ∈ L := fun n hn => hL n (List.mem_append_left _ hn)
    have hLy : ∀ n ∈ y.slots, n ∈ L := fun n hn => hL n (List.mem_append_right _ hn)
    obtain ⟨e1, f1⟩ := take_fram hw hLx h
    have e2 := peek_fram hLy h
    have e : (take st2 x).2.h = (take st x).2.h := by rw [f1.h1, f1.h2, hh]
    simp only [opK, obind_eq_some] at hr
    obtain ⟨v, hv, hr⟩ := hr
    exact ⟨v, _, _, hr, f1, fun k' => by simp only [opK, hv, obind_some], fun k' => by simp only [opK, e, e1, e2, hv, obind_some]⟩
  case bin op kd lit x y =>
    have e1 := peek_fram (x := x) (fun n hn => hL n (List.mem_append_left _ hn)) h
    have e2 := peek_fram (x := y) (fun n hn => hL n (List.mem_append_right _ hn)) h
    simp only [opK, obind_eq_some] at hr
    obtain ⟨v, hv, hr⟩ := hr
    exact ⟨v, _, _, hr, Fram.refl h, fun k' => by simp only [opK, hv, obind_some], fun k' => by simp only [opK, e1, e2, hv, obind_some]⟩
  case indexStr x y =>
    have e1 := peek_fram (x := x) (fun n hn => hL n (List.mem_append_left _ hn)) h
    have e2 := peek_fram (x := y) (fun n hn => hL n (List.mem_append_right _ hn)) h
    simp only [opK, obind_eq_some] at hr
    obtain ⟨v, hv, hr⟩ := hr
    exact ⟨v, _, _, hr, Fram.refl h, fun k' => by simp only [opK, hv, obind_some], fun k' => by simp only [opK, e1, e2, hv, obind_some]⟩
  all_goals
    rename_i x
    have e1 := peek_fram (x := x) hL h
    simp only [opK, obind_eq_some] at hr
    obtain ⟨v, hv, hr⟩ := hr
    exact ⟨v, _, _, hr, Fram.refl h, fun k' => by simp only [opK, hv, obind_some], fun k' => by simp only [opK, e1, hv, obind_some]⟩

theorem swap_ops {β : Type} {cl : FuncId → List AV → H → Option (AV × H)} {x y : AOper} (h : swapOk x y = true) {l : List AOper} {st : St} {k : St → Option β} {r : β}
    (hr : opsK cl (x :: y :: l) st k = some r) : opsK cl (y :: x :: l) st k = some r := by
  obtain ⟨xop, xd, xg⟩ := x
  obtain ⟨yop, yd, yg⟩ := y
  unfold swapOk at h
  split at h
  · rename_i dx dy fx fy h1 h2 h3 h4 h5 h6
    simp only at h1 h2 h3 h4 h5 h6
    subst h1; subst h2; subst h3; subst h4
    simp only [Bool.and_eq_true] at h
    obtain ⟨⟨wx, wy⟩, h⟩ := h
    have hne : ∀ m, m ∈ dx :: fx → m ∉ dy :: fy := fun m hm hm' => by
      have := List.all_eq_true.1 h m hm
      simp only [Bool.not_eq_true', ← Bool.not_eq_true, List.contains_iff_mem] at this
      exact this hm'
    simp only [opsK] at hr ⊢
    -- x from st
    obtain ⟨v, st1, _, e1, f1, ex, _⟩ := opK_fram (L := fx) (st2 := st) wx h5 (fun _ h => h) (fun _ _ => rfl) rfl hr
    simp only [St.put] at e1
    -- y from there, and from st
    have hag : ∀ m, m ∈ fy → st.s m = (st1.set dx v).s m := fun m hm => by
      have h1 : m ≠ dx := fun e => hne m (by rw [e]; exact List.mem_cons_self) (List.mem_cons_of_mem _ hm)
      have h2 : m ∉ fx := fun hf => hne m (List.mem_cons_of_mem _ hf) (List.mem_cons_of_mem _ hm)
      simp only [St.set]; rw [upd_ne _ _ _ _ h1, f1.o1 m h2]
    obtain ⟨u, st2, st2', e2, f2, ey, ey'⟩ := opK_fram (L := fy) (st2 := st) wy h6 (fun _ h => h) hag (by show st.h = st1.h; rw [f1.h1]) e1
    rw [ey']
    simp only [St.put] at e2 ⊢
    -- x from behind y
    have hag2 : ∀ m, m ∈ fx → (st2'.set dy u).s m = st.s m := fun m hm => by
      have h1 : m ≠ dy := fun e => hne m (List.mem_cons_of_mem _ hm) (by rw [e]; exact List.mem_cons_self)
      have h2 : m ∉ fy := fun hf => hne m (List.mem_cons_of_mem _ hm) (List.mem_cons_of_mem _ hf)
      simp only [St.set]; rw [upd_ne _ _ _ _ h1, f2.o2 m h2]
    obtain ⟨v', st1', st1'', e3, f3, ex', ex''⟩ := opK_fram (cl := cl) (k := fun v s => some (v, s)) (r := (v, st1)) (L := fx) (st2 := st2'.set dy u) wx h5 (fun _ h => h) hag2 (by show st2'.h = st.h; rw [f2.h2]) (ex _)
    simp only [Option.some.injEq, Prod.mk.injEq] at e3
    obtain ⟨rfl, rfl⟩ := e3
    rw [ex'']
    have hst : (st1''.set dx v').s = (st2.set dy u).s ∧ (st1''.set dx v').b = (st2.set dy u).b ∧ (st1''.set dx v').h = (st2.set dy u).h := by
      refine ⟨funext fun m => ?_, ?_, ?_⟩
      · simp only [St.set, upd]
        by_cases h1 : m = dx
        · have h2 : m ≠ dy := fun e => hne m (by rw [h1]; exact List.mem_cons_self) (by rw [e]; exact List.mem_cons_self)
          have h3 : m ∉ fy := fun hf => hne m (by rw [h1]; exact List.mem_cons_self) (List.mem_cons_of_mem _ hf)
          rw [if_pos h1, if_neg h2, f2.o1 m h3]; simp only [St.set, upd]; rw [if_pos h1]
        · rw [if_neg h1]
          by_cases h2 : m = dy
          · have h3 : m ∉ fx := fun hf => hne m (List.mem_cons_of_mem _ hf) (by rw [h2]; exact List.mem_cons_self)
            rw [if_pos h2, f3.o2 m h3]; simp only [St.set, upd]; rw [if_pos h2]
          · rw [if_neg h2]
            by_cases h3 : m ∈ fx
            · have h4 : m ∉ fy := fun hf => hne m (List.mem_cons_of_mem _ h3) (List.mem_cons_of_mem _ hf)
              rw [f3.ag m h3, f2.o1 m h4]; simp only [St.set, upd]; rw [if_neg h1]
            · rw [f3.o2 m h3]; simp only [St.set, upd]; rw [if_neg h2]
              by_cases h4 : m ∈ fy
              · exact f2.ag m h4
              · rw [f2.o2 m h4, f2.o1 m h4]; simp only [St.set, upd]; rw [if_neg h1, f1.o1 m h3]
      · show st1''.b = st2.b
        rw [f3.b2, f2.b1]; show st2'.b = st1'.b
        rw [f2.b2, f1.b1]
      · show st1''.h = st2.h
        rw [f3.h2, f2.h1]; show st2'.h = st1'.h
        rw [f2.h2]; exact f1.h1.symm
    have hst' : st1''.set dx v' = st2.set dy u := by
      have : ∀ a b : St, a.s = b.s → a.b = b.b → a.h = b.h → a = b := fun a b h1 h2 h3 => by cases a; cases b; simp_all
      exact this _ _ hst.1 hst.2.1 hst.2.2
    try simp only [St.put]
    rw [hst']; exact e2
  · cases h

end Go.Proofs.Ytfamhjnjlgdglaa.Abs
