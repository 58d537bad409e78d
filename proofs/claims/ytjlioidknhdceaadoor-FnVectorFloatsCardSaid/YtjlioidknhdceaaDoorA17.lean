/- The operations that read what stays and change nothing. -/
import Derived.Test.YtjlioidknhdceaaDoorA16
namespace Go.Proofs.YtjlioidknhdceaaDoor.Abs
set_option linter.all false
set_option linter.unusedVariables false

variable {P : Program} {sg : FuncId → Nat → Nat} {hs : Nat → Nat} {w w' : World} {G G' : Gh} {a : Act} {o : Oper}
variable {w0 : World} {F0 : FT} {A : Nat → Prop} {n : Nat} {st : St} {β : Type}

structure Stab (bx : K → Option Obj) (G : Gh) (w : World) (bx' : K → Option Obj) (G' : Gh) (w' : World) : Prop where
  ext : Ext w G.Fr w' G'.Fr
  β : ∀ s t, G.β s = some t → G'.β s = some t
  dom : ∀ s, (bx s).isSome = true → (bx' s).isSome = true
  box : ∀ s ob t, bx s = some ob → G.at s = some t → w'.heap[t.b]? = w.heap[t.b]?

theorem Stab.at {bx bx' : K → Option Obj} (h : Stab bx G w bx' G' w') {s : K} {t : Th} (ht : G.at s = some t) : G'.at s = some t := by
  cases s with
  | loc s => exact h.β s t ht
  | obj i => exact h.ext.ids i t ht

theorem Stab.pres {bx bx' : K → Option Obj} (h : Stab bx G w bx' G' w') {w'' : World} (k : Pres bx' G' w' w'') : Pres bx G w w'' :=
  ⟨fun b o v ho hv => k.cell b o v (Nat.lt_of_lt_of_le ho (h.ext.more b)) (h.ext.cell b o v ho hv), fun s ob t hs hg => by
    have := h.dom s (by rw [hs]; rfl)
    cases hb : bx' s with
    | none => rw [hb] at this; cases this
    | some ob' => rw [k.box s ob' t hb (h.at hg), h.box s ob t hs hg]⟩

theorem Stab.trans {bx bx1 bx2 : K → Option Obj} {w1 w2 : World} {G1 G2 : Gh} (h : Stab bx G w bx1 G1 w1) (k : Stab bx1 G1 w1 bx2 G2 w2) : Stab bx G w bx2 G2 w2 :=
  ⟨h.ext.trans k.ext, fun s t ht => k.β s t (h.β s t ht), fun s hs => k.dom s (h.dom s hs), fun s ob t hs hg => by
    have := h.dom s (by rw [hs]; rfl)
    cases hb : bx1 s with
    | none => rw [hb] at this; cases this
    | some ob' => rw [k.box s ob' t hb (h.at hg), h.box s ob t hs hg]⟩

theorem Less.dom {st st' : St} (h : Less st st') (s : K) (hs : (st.at s).isSome = true) : (st'.at s).isSome = true := by
  cases s with
  | loc t => show (st'.b t).isSome = true; rw [h.1]; exact hs
  | obj i => exact h.2.dom i hs

theorem Stab.less {st st' : St} (hx : Ext w G.Fr w G'.Fr) (hβ : G'.β = G.β) (hL : Less st st') : Stab st.at G w st'.at G' w := ⟨hx, fun s t ht => by rw [hβ]; exact ht, hL.dom, fun _ _ _ _ _ => rfl⟩

theorem SR.room (h : SR w0 F0 A n st a w G) (i to : Nat) (hr : roomTo st.h i to = true) : ∃ t, G.Fr.θ i = some t ∧ t.r = true ∧ to ≤ t.N := by
  unfold roomTo at hr
  split at hr
  · rename_i N _ hg
    obtain ⟨t, k1, _, _, k4⟩ := h.heap.box i _ hg
    obtain ⟨_, j2, _, _, ⟨_, j5⟩, _⟩ := k4
    exact ⟨t, k1, j2, by rw [j5 _ rfl]; simpa using hr⟩
  · cases hr

def Done (w0 : World) (F0 : FT) (A : Nat → Prop) (n : Nat) (k : AV → St → T β) (R : β → Prop) (a : Act) (dst : Option Nat) (st : St) (G : Gh) (w : World) (calm : Prop) (v' : Value) (w' : World) : Prop :=
  ∃ v st' G', (k v st').All R ∧ SR w0 F0 A n st' a w' G' ∧ (∀ d, dst = some d → TR w' G' (.slot d) v v') ∧ (calm → Stab st.at G w st'.at G' w')

theorem TR_move {p q : Nat → Pos} {x : AV} {v : Value} (h1 : x.isOwn = false) (h2 : x.several = false) (h : TR w G p x v) (hx : Ext w G.Fr w' G'.Fr) (hβ : G'.β = G.β) : TR w' G' q x v := by
  cases x with
  | tup xs => simp [AV.several] at h2
  | ptr k off => cases k with
    | loc s => obtain ⟨b, hb, e⟩ := h; exact ⟨b, by rw [hβ]; exact hb, e⟩
    | obj i => exact TR_of_CR ((CR_of_TC (TC_of_TR h rfl) rfl).ext hx)
  | skipped => exact h
  | undef => trivial
  | _ => exact TR_of_CR ((CR_of_TC (TC_of_TR h rfl) h1).ext hx)

theorem hdV_isOwn {x : AV} : (hdV x).isOwn = false := by
  cases x with
  | slice c e sz xs => cases c <;> rfl
  | _ => rfl
theorem gvV_isOwn {x : AV} : (gvV x).isOwn = false := by
  cases x with
  | slice c e sz xs => cases c <;> rfl
  | _ => rfl
theorem CR_isOwn {F : FT} {x : AV} {v : Value} (h : CR w F x v) : x.isOwn = false := by cases h <;> rfl
theorem CR_plain {F : FT} {x : AV} {v : Value} (h : CR w F x v) : x.plain = true := by cases h <;> rfl

theorem pin_isOwn (st : St) (t : Nat) : (pin st t).1.isOwn = false := by
  unfold pin; split
  · rfl
  · exact hdV_isOwn
theorem give_isOwn {x : Operand} {ax : AX} (hx : OX x ax) (a : Act) (w : World) (st : St) : (give st ax).1.isOwn = false := by
  cases ax with
  | t t => exact gvV_isOwn
  | u t => exact gvV_isOwn
  | f t =>
    unfold give; simp only; split
    · unfold frz; repeat (first | rfl | split)
    · exact gvV_isOwn
  | m t => exact pin_isOwn st t
  | p t => exact hdV_isOwn
  | c v => obtain ⟨own, hx⟩ := hx; exact CR_isOwn (const_CR (a := a) (w := w) (Fr := ⟨fun _ => 0, fun _ => none⟩) hx)

theorem TR_mkptr {p : Nat → Pos} {s : K} {t : Th} {off : Nat} (h : G.at s = some t) : TR w G p (.ptr s off) (.pointer (some ⟨t.b, off, none⟩)) := by
  cases s with
  | loc s => exact ⟨t, h, rfl⟩
  | obj i => exact TR_of_CR (.ref i off t h)

def slotAt (dst : Option Nat) : Nat → Pos := .slot (dst.getD 0)
theorem slotAt_eq {dst : Option Nat} {d : Nat} (h : dst = some d) : slotAt dst = .slot d := by subst h; rfl

theorem SR.slotTurn (h : SR w0 F0 A n st a w G) (t : Nat) (p : Nat → Pos) {x : AV} (hx : TR w (G.rename t p) (.slot t) x (a.tmps.getD t undef)) :
    SR w0 F0 A n (st.set t x) a w (G.rename t p) := by
  refine ⟨h.size, h.defers, fun u => ?_, fun s cs hs => Gh.rename_box (h.boxes s cs hs), Gh.rename_heap h.heap, h.kept, h.ext, fun b hb => ?_, h.same, h.fresh, h.nob⟩
  · by_cases hu : u = t
    · subst hu; simp only [St.set]; rw [upd_same]; exact hx
    · simp only [St.set]; rw [upd_ne _ _ _ _ hu]; exact (h.slots u).rename hu
  · by_cases hj : ∃ j, G.ω b = .slot t j
    · obtain ⟨j, hj⟩ := hj
      exact h.mine b (by rw [hj]; simp)
    · exact h.mine b (by rw [← Gh.rename_ne G t p b (fun j e => hj ⟨j, e⟩)]; exact hb)

theorem clsLeft_TC {q q' : Pos} {x : AV} {v : Value} (h : TC w G q x v) : TC w G q' (x.cls .left) v := by
  by_cases hown : x.isOwn = true
  · cases x with
    | slice c e sz xs => cases c with
      | own f => obtain ⟨b, _, hO⟩ := h; exact TC_of_CR (hO.hdr e)
      | _ => simp [AV.isOwn] at hown
    | _ => simp [AV.isOwn] at hown
  · have hc := CR_of_TC h (by simpa using hown)
    have : x.cls .left = x := by
      cases x with
      | slice c e sz xs => cases c with
        | own f => simp [AV.isOwn] at hown
        | _ => rfl
      | _ => rfl
    rw [this]; exact TC_of_CR hc

theorem SR.extract (h : SR w0 F0 A n st a w G) {t i : Nat} {v x' : AV} (hr : exV (st.s t) i = some (v, x')) (q : Pos) :
    ∃ G' vs vv, SR w0 F0 A n (st.set t x') a w G' ∧ G'.β = G.β ∧ Ext w G.Fr w G'.Fr ∧ a.tmps.getD t undef = .tuple vs ∧ vs[i]? = some vv ∧ TC w G' q v vv := by
  unfold exV at hr
  split at hr
  · rename_i xs hxs
    simp only [Option.map_eq_some_iff] at hr
    obtain ⟨x, hx, hr⟩ := hr
    injection hr with e1 e2; subst e1; subst e2
    have hs := h.slots t
    rw [hxs] at hs
    obtain ⟨vs, hv, hl, hc⟩ := hs
    have hi : i < xs.length := (List.getElem?_eq_some_iff.1 hx).1
    have hxi : xs[i] = x := (List.getElem?_eq_some_iff.1 hx).2
    have hiv : i < vs.size := by omega
    let p : Nat → Pos := fun j => if j = i + 1 then q else .slot t j
    have hpi : p (i + 1) = q := if_pos rfl
    have hci := hc i hi hiv
    rw [hxi] at hci
    refine ⟨G.rename t p, vs, vs[i], h.slotTurn t p ?_, rfl, Ext.refl _ _, hv, Array.getElem?_eq_getElem hiv, by rw [← hpi]; exact TC.renamed hci⟩
    rw [hv]
    have hsl : i + [x.cls .left].length ≤ xs.length := by simp; omega
    have hlen : (splice xs i [x.cls .left]).length = xs.length := splice_length hsl
    refine ⟨vs, rfl, by rw [hlen]; exact hl, fun j hj hj' => ?_⟩
    have hg := splice_get hsl j
    rw [List.getElem?_eq_getElem hj] at hg
    by_cases hji : j = i
    · subst hji
      rw [if_pos (by simp)] at hg
      simp only [Nat.sub_self, List.getElem?_cons_zero, Option.some.injEq] at hg
      rw [hg]
      exact clsLeft_TC (q := p (j + 1)) (TC.renamed hci)
    · have hj2 : j < xs.length := by omega
      rw [if_neg (by simp; omega), List.getElem?_eq_getElem hj2, Option.some.injEq] at hg
      rw [hg]
      have := TC.renamed (p := p) (hc j hj2 hj')
      have hpj : p (j + 1) = .slot t (j + 1) := if_neg (by omega)
      rw [hpj] at this
      exact this
  · cases hr

theorem ldV_dom {m : Mode} {agg : Bool} {k : Nat} {p v : AV} {st st' : St} (hq : ldV m agg k p st = some (v, st')) (s : K) (hs : (st.at s).isSome = true) : (st'.at s).isSome = true := by
  unfold ldV at hq
  split at hq
  · simp only [Option.bind_eq_some_iff, Option.map_eq_some_iff] at hq
    obtain ⟨ob, hob, q, hq1, hq⟩ := hq
    injection hq with _ hq
    rw [← hq, St.at_setAt hob]
    split
    · rfl
    · exact hs
  · split at hq
    · injection hq with hq; injection hq with _ hq; rw [← hq]; exact hs
    · cases hq
  · injection hq with hq; injection hq with _ hq; rw [← hq]; exact hs
  · simp only [Option.map_eq_some_iff] at hq
    obtain ⟨_, _, hq⟩ := hq
    injection hq with _ hq; rw [← hq]; exact hs
  · cases hq

section
variable (cl : FuncId → List AV → H → T (AV × H))

theorem early_sound (all : List Oper) {x : AOp} (hx : pOp0 P sg hs all o = some x) (he : x.early = true) (h : SR w0 F0 A n st a w G) {k : AV → St → T β} {R : β → Prop} (hr : (opK cl x st k).All R) :
    ∃ v' v st' G', (k v st').All R ∧ SR w0 F0 A n st' a w G' ∧ (∀ d, o.dst = some d → TR w G' (.slot d) v v') ∧ Stab st.at G w st'.at G' w ∧ ∀ w', ((x.pure = true ∧ Pres (fun _ => none) G' w w') ∨ Pres st'.at G' w w') → Runs P o a w' v' w' := by
  have simple : ∀ {v : AV} {v' : Value} {st' : St} {G' : Gh}, (k v st').All R → SR w0 F0 A n st' a w G' → CR w G'.Fr v v' → G'.β = G.β → Ext w G.Fr w G'.Fr → Less st st' →
      (∀ w', ((x.pure = true ∧ Pres (fun _ => none) G' w w') ∨ Pres st'.at G' w w') → Runs P o a w' v' w') →
      ∃ v st' G', (k v st').All R ∧ SR w0 F0 A n st' a w G' ∧ (∀ d, o.dst = some d → TR w G' (.slot d) v v') ∧ Stab st.at G w st'.at G' w ∧ ∀ w', ((x.pure = true ∧ Pres (fun _ => none) G' w w') ∨ Pres st'.at G' w w') → Runs P o a w' v' w' := fun hk hS hC hβ hE hb hR =>
    ⟨_, _, _, hk, hS, fun d _ => TR_of_CR hC, Stab.less hE hβ hb, hR⟩
  unfold pOp0 at hx
  split at hx
  case h_1 y hop =>
    split at hx
    · simp only [Option.map_eq_some_iff] at hx
      obtain ⟨ax, hax, rfl⟩ := hx
      obtain ⟨G', h1, h2, h3, h4, h5⟩ := h.takeO (OX.ofm hax) (slotAt o.dst) (by simp [slotAt])
      refine ⟨_, _, _, G', hr, h1, fun d hd => by rw [← slotAt_eq hd]; exact h2, ?_, fun w' _ => runs_move hop⟩
      exact Stab.less h5 h4 (take_less _ (by simpa [AOp.early] using he))
    · simp only [Option.map_eq_some_iff] at hx
      obtain ⟨ax, hax, rfl⟩ := hx
      obtain ⟨G', h1, h2, h3, h4, h5⟩ := h.copyO (OX.ofm hax) (if hsOf hs o.dst = 5 then .look else modeOf sg all o.dst) (slotAt o.dst)
      refine ⟨_, _, _, G', hr, h1, fun d hd => by rw [← slotAt_eq hd]; exact h2, ?_, fun w' _ => runs_move hop⟩
      exact Stab.less h5 h4 (copy_less _ _ _)
  case h_2 y hop =>
    simp only [Option.map_eq_some_iff] at hx
    obtain ⟨ax, hax, rfl⟩ := hx
    obtain ⟨G', h1, h2, h3, h4, h5⟩ := h.takeX hax (slotAt o.dst) (by simp [slotAt])
    refine ⟨_, _, _, G', hr, h1, fun d hd => by rw [← slotAt_eq hd]; exact h2, ?_, fun w' _ => runs_assign hop⟩
    exact Stab.less h5 h4 (take_less _ (by simpa [AOp.early] using he))
  case h_3 c y z hop =>
    simp only [Option.bind_eq_some_iff, Option.map_eq_some_iff] at hx
    obtain ⟨ac, hc, ay, hy, az, hz, rfl⟩ := hx
    simp only [opK, T.All_on] at hr
    obtain ⟨v, hv, hr⟩ := hr
    obtain ⟨pc, hpc⟩ := h.peekX hc
    obtain ⟨G1, h1, c1, b1, e1, t1⟩ := h.giveX hy
    obtain ⟨G2, h2, c2, b2, e2, t2⟩ := h1.giveX hz
    have hSt : Stab st.at G w (give (give st ay).2 az).2.at G2 w := Stab.less (e1.trans e2) (b2.trans b1) ((give_less _ _).trans (give_less _ _))
    unfold pkV at hv
    split at hv
    · rename_i hcv
      rw [hcv] at hpc
      split at hv
      · cases hv
      · rename_i hs
        injection hv with hv
        rw [← hv] at hr
        refine ⟨_, _, _, G2, hr, h2, fun d hd => TR_move (give_isOwn (OX.of hy) a w st) (by simpa using hs) (t1 (by simpa using hs) (.slot d)) e2 b2, hSt, fun w' _ => ?_⟩
        exact runs_pick hop (b := true) (TR_bool hpc)
    · rename_i hcv
      rw [hcv] at hpc
      split at hv
      · cases hv
      · rename_i hs
        injection hv with hv
        rw [← hv] at hr
        refine ⟨_, _, _, G2, hr, h2, fun d hd => t2 (by simpa using hs) (.slot d), hSt, fun w' _ => ?_⟩
        exact runs_pick hop (b := false) (TR_bool hpc)
    · cases hv
  case h_8 t y hop =>
    simp only [Option.bind_eq_some_iff, Option.map_eq_some_iff] at hx
    obtain ⟨ag, hag, k', hk', ay, hy, rfl⟩ := hx
    simp only [opK, T.All_on] at hr
    obtain ⟨q, hq, hr⟩ := hr
    obtain ⟨p, hp⟩ := h.peekX hy
    obtain ⟨v, b'⟩ := q
    by_cases hgl : ∃ g, ay = .c (.gl g)
    · obtain ⟨g, rfl⟩ := hgl
      obtain ⟨e0, vv, h1, h2⟩ := load_gl h hop hag hk' hp hq
      subst e0
      exact ⟨vv, _, _, G, hr, h, fun d _ => TR_of_CR h1, Stab.less (Ext.refl _ _) rfl (Less.refl _), fun w' hw' => h2 w' (hw'.elim (fun h => h.2) fun h => ⟨h.cell, fun _ _ _ hs => by cases hs⟩)⟩
    obtain ⟨G', vv, h1, h2, h3, h4, h5, h6, _⟩ := load_sound h hop hag hk' hp hq (slotAt o.dst) (by simp [slotAt]) (by simp [slotAt])
    have hst : Stab st.at G w b'.at G' w := by
      exact ⟨h5, fun s t ht => by rw [h4]; exact ht, fun s hs => ldV_dom hq s hs, fun _ _ _ _ _ => rfl⟩
    have hpu : (AOp.load (modeOf sg all o.dst) ag k' ay).pure = false := by
      cases ay with
      | c v => cases v with
        | gl g => exact absurd ⟨g, rfl⟩ hgl
        | _ => rfl
      | _ => rfl
    exact ⟨vv, _, _, G', hr, h1, fun d hd => by rw [← slotAt_eq hd]; exact h2, hst, fun w' hw' => h3 w' (hst.pres (hw'.resolve_left (fun h => by rw [hpu] at h; cases h.1)))⟩
  case h_10 y hop =>
    simp only [Option.map_eq_some_iff] at hx
    obtain ⟨ay, hy, rfl⟩ := hx
    simp only [opK, T.All_on] at hr
    obtain ⟨v, hv, hr⟩ := hr
    obtain ⟨p, hp⟩ := h.peekX hy
    have hnn : v = peek st ay ∧ v.isOwn = false ∧ v.several = false ∧ ((∃ ad, a.eval y = .pointer (some ad)) ∨ ∃ f, a.eval y = .func (.func f) #[] #[]) := by
      unfold nnV at hv
      split at hv
      · rename_i hp0
        injection hv with hv; rw [hp0] at hp
        obtain ⟨b, _, e⟩ := TR_ptr hp
        exact ⟨by rw [hp0, hv], by rw [← hv]; rfl, by rw [← hv]; rfl, .inl ⟨_, e⟩⟩
      · rename_i hp0
        injection hv with hv; rw [hp0] at hp
        obtain ⟨ad, e, _⟩ := TR_eptr hp
        exact ⟨by rw [hp0, hv], by rw [← hv]; rfl, by rw [← hv]; rfl, .inl ⟨_, e⟩⟩
      · rename_i hp0
        injection hv with hv; rw [hp0] at hp
        exact ⟨by rw [hp0, hv], by rw [← hv]; rfl, by rw [← hv]; rfl, .inr ⟨_, TR_fn hp⟩⟩
      · cases hv
    obtain ⟨e1, e2, e3, e4⟩ := hnn
    exact ⟨a.eval y, v, st, G, hr, h, fun d _ => TR_move e2 e3 (e1 ▸ hp) (Ext.refl _ _) rfl, Stab.less (Ext.refl _ _) rfl (Less.refl _), fun w' _ => runs_nilCheck hop rfl e4⟩
  case h_11 op t y z yt hop =>
    simp only [Option.bind_eq_some_iff, Option.map_eq_some_iff] at hx
    obtain ⟨kd, hkd, ay, hy, az, hz, rfl⟩ := hx
    simp only [opK, T.All_on] at hr
    obtain ⟨v, hv, hr⟩ := hr
    obtain ⟨p, hp⟩ := h.peekX hy
    obtain ⟨q, hq⟩ := h.peekX hz
    obtain ⟨v', hC, hR⟩ := runs_bin hop hkd hp hq hv
    exact ⟨v', simple hr h hC rfl (Ext.refl _ _) (Less.refl _) (fun w' _ => hR w')⟩
  case h_12 op t y hop =>
    simp only [Option.map_eq_some_iff] at hx
    obtain ⟨ay, hy, rfl⟩ := hx
    simp only [opK, T.All_on] at hr
    obtain ⟨v, hv, hr⟩ := hr
    obtain ⟨p, hp⟩ := h.peekX hy
    obtain ⟨v', hC, hR⟩ := runs_un hop hp hv
    exact ⟨v', simple hr h hC rfl (Ext.refl _ _) (Less.refl _) (fun w' _ => hR w')⟩
  case h_13 s d y hop =>
    split at hx
    · rename_i hs hd
      simp only [Option.bind_eq_some_iff, Option.map_eq_some_iff] at hx
      obtain ⟨ay, hy, i, hi, rfl⟩ := hx
      simp only [opK, T.All_on] at hr
      obtain ⟨v, hv, hr⟩ := hr
      obtain ⟨p, hp⟩ := h.peekX hy
      obtain ⟨v', hC, hR⟩ := runs_convInt hop hi hs hp hv
      exact ⟨v', simple hr h hC rfl (Ext.refl _ _) (Less.refl _) (fun w' _ => hR w')⟩
    · simp only [Option.bind_eq_some_iff] at hx
      obtain ⟨ay, hy, ⟨e, sz, by'⟩, hte, hx⟩ := hx
      split at hx
      · rename_i hc
        obtain ⟨rfl, hu8⟩ := hc
        injection hx with hx; subst hx
        simp only [opK, T.All_on] at hr
        obtain ⟨v, hv, hr⟩ := hr
        obtain ⟨G1, h1, c1, b1, e1, t1⟩ := h.giveX hy
        have hsev : (give st ay).1.several = false := by
          unfold cvBS at hv
          split at hv
          · rename_i hg; rw [hg]; rfl
          · rename_i hg; rw [hg]; rfl
          · cases hv
        have hkd : tkind P d = some 2 := by assumption
        obtain ⟨v', hC, hR⟩ := runs_convBS hop hte hu8 hkd (t1 hsev (fun _ => .mid)) (give_isOwn (OX.of hy) a w st) h1.heap hv
        exact ⟨v', simple hr h1 hC b1 e1 (give_less _ _) (fun w' hw' => hR w' (hw'.resolve_left (by simp [AOp.pure])))⟩
      · cases hx
    · simp only [Option.bind_eq_some_iff] at hx
      obtain ⟨ay, hy, ⟨e, sz, by'⟩, hte, hx⟩ := hx
      split at hx
      · injection hx with hx; subst hx; simp [AOp.early] at he
      · cases hx
    · rename_i hs hd
      simp only [Option.bind_eq_some_iff, Option.some.injEq] at hx
      obtain ⟨ay, hy, rfl⟩ := hx
      simp only [opK, T.All_on] at hr
      obtain ⟨v, hv, hr⟩ := hr
      obtain ⟨p, hp⟩ := h.peekX hy
      obtain ⟨v', hC, hR⟩ := runs_convSS hop hs hd hp hv
      exact ⟨v', simple hr h hC rfl (Ext.refl _ _) (Less.refl _) (fun w' _ => hR w')⟩
    · cases hx
  case h_14 t y hop =>
    simp only [Option.bind_eq_some_iff] at hx
    obtain ⟨kd, hkd, hx⟩ := hx
    split at hx
    · cases hx
    · rename_i h5
      simp only [Option.map_eq_some_iff] at hx
      obtain ⟨ay, hy, rfl⟩ := hx
      simp only [opK, T.All_on, mkI] at hr
      obtain ⟨v, hv, hr⟩ := hr
      split at hv
      · rename_i hpl
        injection hv with hv; subst hv
        obtain ⟨G1, h1, c1, b1, e1, t1⟩ := h.giveX hy
        have hsev : (give st ay).1.several = false := by cases hg : (give st ay).1 <;> first | rfl | (rw [hg] at hpl; simp [AV.plain] at hpl)
        have hC := CR_of_TC (TC_of_TR (t1 hsev (fun _ => .mid)) hpl) (give_isOwn (OX.of hy) a w st)
        exact ⟨_, simple hr h1 (.iface t _ _ hC) b1 e1 (give_less _ _) (fun w' _ => runs_iface hop hkd h5 rfl w')⟩
      · cases hv
  case h_15 t y lo hi hop =>
    simp only [Option.bind_eq_some_iff] at hx
    obtain ⟨alo, hlo, ahi, hhi, hx⟩ := hx
    split at hx
    · rename_i hk
      simp only [Option.bind_eq_some_iff, Option.some.injEq] at hx
      obtain ⟨ay, hy, rfl⟩ := hx
      simp only [opK, T.All_on] at hr
      obtain ⟨v, hv, hr⟩ := hr
      obtain ⟨p, hp⟩ := h.peekX hy
      obtain ⟨v', hC, hR⟩ := runs_sliceStr hop hk hp (fun v hv => bound_inv h hlo hv) (fun v hv => bound_inv h hhi hv) hv
      exact ⟨v', simple hr h hC rfl (Ext.refl _ _) (Less.refl _) (fun w' _ => hR w')⟩
    · rename_i hk
      simp only [Option.bind_eq_some_iff, Option.map_eq_some_iff] at hx
      obtain ⟨ay, hy, ⟨e, sz, by'⟩, hte, rfl⟩ := hx
      simp only [opK, T.All_on] at hr
      obtain ⟨v, hv, hr⟩ := hr
      obtain ⟨G1, h1, c1, b1, e1, t1⟩ := h.giveO (OX.ofm hy)
      have hsev : (give st ay).1.several = false := by
        unfold slSl at hv
        split at hv
        · rename_i hg _ _; rw [hg]; rfl
        · rename_i hg _ _; rw [hg]; rfl
        · cases hv
      obtain ⟨v', hC, hR⟩ := runs_sliceSl hop hte (t1 hsev (fun _ => .mid)) (give_isOwn (OX.ofm hy) a w st) (fun v hv => bound_inv h hlo hv) (fun v hv => bound_inv h hhi hv) h1.room hv
      exact ⟨v', simple hr h1 hC b1 e1 (give_less _ _) (fun w' _ => hR w')⟩
    · cases hx
  case h_16 t y i hop =>
    simp only [Option.bind_eq_some_iff] at hx
    obtain ⟨⟨off, u⟩, hf, k', hk', hx⟩ := hx
    split at hx
    · cases hx
    · rename_i h0
      simp only [Option.map_eq_some_iff] at hx
      obtain ⟨ay, hy, rfl⟩ := hx
      simp only [opK, T.All_on] at hr
      obtain ⟨v, hv, hr⟩ := hr
      obtain ⟨p, hp⟩ := h.peekX hy
      unfold fdV at hv
      split at hv
      · rename_i s k0 hpk
        injection hv with hv; subst hv
        rw [hpk] at hp
        obtain ⟨b, hb, e⟩ := TR_ptr hp
        refine ⟨.pointer (some ((⟨b.b, k0, none⟩ : Addr).add off)), _, st, G, hr, h, fun d _ => by rw [add_off _ rfl]; exact TR_mkptr hb, Stab.less (Ext.refl _ _) rfl (Less.refl _), fun w' _ => runs_fieldAddr hop hf hk' h0 e w'⟩
      · rename_i ys hpk
        injection hv with hv; subst hv
        rw [hpk] at hp
        obtain ⟨ad, e, hC⟩ := TR_eptr hp
        refine ⟨.pointer (some (ad.add off)), simple hr h ?_ rfl (Ext.refl _ _) (Less.refl _) (fun w' _ => runs_fieldAddr hop hf hk' h0 e w')⟩
        cases hC with
        | eptr _ _ vs hs hpp hcell hone hcr =>
          rw [add_off _ hs]
          refine .eptr _ _ (fun i => vs (off + i)) rfl (fun i hi => ?_) (fun i hi => ?_) (fun i hi => hone _ (by simp at hi; omega)) (fun i hi => ?_)
          · simp only [Nat.add_assoc]; exact hpp (off + i) (by simp at hi; omega)
          · simp only [Nat.add_assoc]; exact hcell (off + i) (by simp at hi; omega)
          · have := hcr (off + i) (by simp at hi; omega)
            simpa using this
      · cases hv
  case h_17 t y i hop =>
    simp only [Option.bind_eq_some_iff, Option.map_eq_some_iff] at hx
    obtain ⟨⟨off, u⟩, hf, ag, hag, k', hk', ay, hy, rfl⟩ := hx
    simp only [opK, T.All_on] at hr
    obtain ⟨v, hv, hr⟩ := hr
    obtain ⟨p, hp⟩ := h.peekX hy
    obtain ⟨v', hC, hR⟩ := runs_field hop hf hag hk' hp hv
    exact ⟨v', simple hr h hC rfl (Ext.refl _ _) (Less.refl _) (fun w' _ => hR w')⟩
  case h_18 t y i hop =>
    simp only [Option.bind_eq_some_iff, Option.map_eq_some_iff] at hx
    obtain ⟨⟨e, sz, by'⟩, hte, ay, hy, ai, hi, rfl⟩ := hx
    simp only [opK, T.All_on] at hr
    obtain ⟨v, hv, hr⟩ := hr
    obtain ⟨q, hq⟩ := h.peekX hi
    obtain ⟨G1, h1, c1, b1, e1, t1⟩ := h.giveO (OX.ofm hy)
    have hsev : (give st ay).1.several = false ∧ (peek st ai).isOwn = false ∧ (peek st ai).several = false := by
      unfold ixV at hv
      split at hv
      · rename_i hg hi; rw [hg, hi]; exact ⟨rfl, rfl, rfl⟩
      · rename_i hg hi; rw [hg, hi]; exact ⟨rfl, rfl, rfl⟩
      · cases hv
    obtain ⟨v', hC, hR⟩ := runs_indexAddr hop hte (t1 hsev.1 (fun _ => .mid)) (TR_move (q := fun _ => .mid) hsev.2.1 hsev.2.2 hq e1 b1) hv
    exact ⟨v', simple hr h1 hC b1 e1 (give_less _ _) (fun w' _ => hR w')⟩
  case h_19 t y i hop =>
    split at hx
    · rename_i hk
      simp only [Option.bind_eq_some_iff, Option.map_eq_some_iff] at hx
      obtain ⟨ay, hy, ai, hi, rfl⟩ := hx
      simp only [opK, T.All_on] at hr
      obtain ⟨v, hv, hr⟩ := hr
      obtain ⟨p, hp⟩ := h.peekX hy
      obtain ⟨q, hq⟩ := h.peekX hi
      obtain ⟨v', hC, hR⟩ := runs_indexStr hop hk hp hq hv
      exact ⟨v', simple hr h hC rfl (Ext.refl _ _) (Less.refl _) (fun w' _ => hR w')⟩
    · cases hx
  case h_20 t i hop =>
    injection hx with hx; subst hx
    simp only [opK, T.All_on] at hr
    obtain ⟨⟨v, x'⟩, hv, hr⟩ := hr
    obtain ⟨G', vs, vv, h1, hβ, hE, hev, hvi, hT⟩ := h.extract hv (slotAt o.dst 0)
    have hpl : ∀ d, o.dst = some d → TR w G' (.slot d) v vv := fun d hd => by
      rw [slotAt_eq hd] at hT
      by_cases hp : v.plain = true
      · exact TR_of_TC hT hp
      · cases v with
        | ptr k off => cases k <;> first | (simp [AV.plain] at hp; done) | exact absurd hT (by intro hh; cases hh)
        | _ => first | (simp [AV.plain] at hp; done) | exact absurd hT (by intro hh; cases hh) | trivial
    exact ⟨vv, v, _, G', hr, h1, hpl, Stab.less hE hβ (Less.refl st), fun w' _ => runs_extract hop hev hvi w'⟩
  case h_21 args ats hop =>
    split at hx
    · rename_i y t ha hta
      simp only [Option.bind_eq_some_iff] at hx
      obtain ⟨kd, hkd, hx⟩ := hx
      split at hx
      · rename_i h2; subst h2
        simp only [Option.map_eq_some_iff] at hx
        obtain ⟨ay, hy, rfl⟩ := hx
        simp only [opK, T.All_on] at hr
        obtain ⟨v, hv, hr⟩ := hr
        obtain ⟨p, hp⟩ := h.peekX hy
        obtain ⟨v', hC, hR⟩ := runs_len (s := true) hop ha hta (by simpa using hkd) hp hv
        exact ⟨v', simple hr h hC rfl (Ext.refl _ _) (Less.refl _) (fun w' _ => hR w')⟩
      · split at hx
        · rename_i h3; subst h3
          simp only [Option.map_eq_some_iff] at hx
          obtain ⟨ay, hy, rfl⟩ := hx
          simp only [opK, T.All_on] at hr
          obtain ⟨v, hv, hr⟩ := hr
          obtain ⟨p, hp⟩ := h.peekX hy
          obtain ⟨v', hC, hR⟩ := runs_len (s := false) hop ha hta (by simpa using hkd) hp hv
          exact ⟨v', simple hr h hC rfl (Ext.refl _ _) (Less.refl _) (fun w' _ => hR w')⟩
        · cases hx
    · cases hx
  case h_4 => simp only [Option.bind_eq_some_iff, Option.map_eq_some_iff] at hx; obtain ⟨_, _, _, _, rfl⟩ := hx; (split at he); { simp [AOp.early] at he }; { split at he <;> simp [AOp.early] at he }
  case h_5 => simp only [Option.bind_eq_some_iff, Option.map_eq_some_iff] at hx; obtain ⟨_, _, _, _, rfl⟩ := hx; split at he <;> simp [AOp.early] at he
  case h_6 =>
    simp only [Option.bind_eq_some_iff] at hx; obtain ⟨_, _, hx⟩ := hx
    split at hx
    · simp only [Option.bind_eq_some_iff, Option.map_eq_some_iff] at hx; obtain ⟨_, _, _, _, rfl⟩ := hx; simp [AOp.early] at he
    · cases hx
  case h_7 =>
    simp only [Option.bind_eq_some_iff] at hx; obtain ⟨⟨_, _, _⟩, _, _, _, hx⟩ := hx
    split at hx
    · simp only [Option.map_eq_some_iff] at hx; obtain ⟨_, _, rfl⟩ := hx; simp [AOp.early] at he
    · cases hx
  case h_9 => simp only [Option.bind_eq_some_iff, Option.map_eq_some_iff] at hx; obtain ⟨_, _, _, _, _, _, rfl⟩ := hx; simp [AOp.early] at he
  case h_22 =>
    split at hx
    · simp only [Option.bind_eq_some_iff] at hx; obtain ⟨⟨_, _, _⟩, _, _, _, _, _, hx⟩ := hx
      split at hx
      · injection hx with hx; subst hx; simp [AOp.early] at he
      · split at hx
        · injection hx with hx; subst hx; simp [AOp.early] at he
        · cases hx
    · cases hx
  case h_23 =>
    simp only [Option.bind_eq_some_iff] at hx; obtain ⟨_, _, hx⟩ := hx
    split at hx
    · simp only [Option.map_eq_some_iff] at hx; obtain ⟨_, _, rfl⟩ := hx; simp [AOp.early] at he
    · cases hx
  case h_24 => simp only [Option.map_eq_some_iff] at hx; obtain ⟨_, _, rfl⟩ := hx; simp [AOp.early] at he
  case h_25 =>
    simp only [Option.bind_eq_some_iff] at hx; obtain ⟨⟨_, _, _⟩, _, _, _, hx⟩ := hx
    split at hx
    · simp only [Option.bind_eq_some_iff, Option.map_eq_some_iff] at hx; obtain ⟨_, _, _, _, rfl⟩ := hx; simp [AOp.early] at he
    · cases hx
  case h_26 =>
    split at hx
    · simp only [Option.bind_eq_some_iff] at hx; obtain ⟨⟨_, _, _⟩, _, _, _, _, _, hx⟩ := hx
      split at hx
      · injection hx with hx; subst hx; simp [AOp.early] at he
      · split at hx
        · injection hx with hx; subst hx; simp [AOp.early] at he
        · cases hx
    · cases hx
  case h_27 => simp only [Option.map_eq_some_iff] at hx; obtain ⟨_, _, rfl⟩ := hx; split at he <;> simp [AOp.early] at he
  case h_28 => cases hx
end

end Go.Proofs.YtjlioidknhdceaaDoor.Abs
