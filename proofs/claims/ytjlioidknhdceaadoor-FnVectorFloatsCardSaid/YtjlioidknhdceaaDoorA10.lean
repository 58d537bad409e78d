/- How the state's relation is kept when the world changes: boxes. -/
import Derived.Test.YtjlioidknhdceaaDoorA9
import Derived.Laws.CopyRow
namespace Go.Proofs.YtjlioidknhdceaaDoor.Abs
set_option linter.all false

variable {P : Program} {w w' : World} {G G' : Gh} {a : Act} {o : Oper}
variable {w0 : World} {F0 : FT} {A : Nat → Prop} {n : Nat} {st : St}

theorem ext_setRow {g : Nat} (h : G.Fr g = 0) (cs : Array Value) : Ext w G.Fr (w.setRow g cs) G.Fr :=
  ⟨fun _ => Nat.le_refl _, fun b o v ho hv => by
    have hne : b ≠ g := fun e => by subst e; omega
    rw [← hv]; exact World.cell?_of_block (a := ⟨b, o, none⟩) (setRow_other w g b cs hne), fun _ _ h => h, fun b vs e h1 h2 => ⟨vs, by
    have hne : b ≠ g := fun e => by subst e; omega
    rw [setRow_other w g b cs hne]; exact h2⟩⟩

theorem kp_setRow {g : Nat} (hk : Kp w0 A w) (hg : A g ∨ w0.heap.size ≤ g) (cs : Array Value) : Kp w0 A (w.setRow g cs) :=
  ⟨hk.os, hk.tape, hk.output, by rw [size_setRow]; exact hk.size, fun b hb hA => by
    rw [setRow_other w g b cs (fun e => by subst e; rcases hg with h | h; { exact hA h }; { omega })]
    exact hk.block b hb hA⟩

theorem St.at_setAt {st : St} {s : K} {ob : Obj} (hs : st.at s = some ob) (ob' : Obj) (s' : K) : (st.setAt s ob').at s' = if s' = s then some ob' else st.at s' := by
  cases s with
  | loc t =>
    cases s' with
    | loc t' => simp only [St.setAt, St.at, upd, K.loc.injEq]
    | obj i' => simp [St.setAt, St.at]
  | obj i =>
    cases s' with
    | loc t' => simp [St.setAt, St.at]
    | obj i' => simp only [St.setAt, St.at, K.obj.injEq]; exact H.get_set hs ob' i'

theorem St.n_setAt (st : St) (s : K) (ob : Obj) : (st.setAt s ob).h.n = st.h.n := by
  cases s with
  | loc t => rfl
  | obj i => exact H.n_set _ _ _
theorem St.Γ_setAt (st : St) (s : K) (ob : Obj) : (st.setAt s ob).h.Γ = st.h.Γ := by
  cases s with
  | loc t => rfl
  | obj i => exact H.Γ_set _ _ _
theorem St.s_setAt (st : St) (s : K) (ob : Obj) : (st.setAt s ob).s = st.s := by cases s <;> rfl

theorem St.setAt_self {st : St} {s : K} {ob : Obj} (hs : st.at s = some ob) : st.setAt s ob = st := by
  cases s with
  | loc t =>
    cases st
    simp only [St.setAt, St.at] at *
    congr 1
    funext j; simp only [upd]; split <;> simp_all
  | obj i =>
    cases st with
    | mk ss bb h =>
    simp only [St.setAt, St.at] at *
    congr 1
    obtain ⟨h1, h2⟩ := H.get_lt hs
    unfold H.set
    rw [if_neg (by omega)]
    unfold H.get at hs
    rw [if_neg (by omega)] at hs
    cases h with
    | mk base l Γ =>
    simp only at *
    congr 1
    apply List.ext_getElem?
    intro j
    by_cases hj : j = i - base
    · subst hj
      have hlt : i - base < l.length := by simp only [H.n] at h2; omega
      rw [List.getElem?_set_self hlt]
      cases hl : l[i - base]? with
      | none => rw [hl] at hs; cases hs
      | some o => rw [hl] at hs; cases o with
        | none => cases hs
        | some o => simp only [Option.join, Option.bind_some, id] at hs; rw [hs]
    · rw [List.getElem?_set_ne (fun e => hj e.symm)]

theorem St.setAt_setAt {st : St} {s : K} {ob : Obj} (hs : st.at s = some ob) (o1 o2 : Obj) : (st.setAt s o1).setAt s o2 = st.setAt s o2 := by
  cases s with
  | loc t =>
    simp only [St.setAt]
    congr 1
    funext j; simp only [upd]; split <;> rfl
  | obj i =>
    simp only [St.setAt]
    congr 1
    unfold H.set
    split
    · rfl
    · simp

theorem SR.setBox (h : SR w0 F0 A n st a w G) {s : K} {ob ob' : Obj} (hs : st.at s = some ob) (hx : Ext w G.Fr w' G'.Fr) (hβ : G'.β = G.β) (hθ : G'.Fr.θ = G.Fr.θ)
    (hk : ∀ p, (∀ c, p ≠ .cell s c) → p ≠ .box s → ∀ b, G.ω b = p → b < w.heap.size → w'.heap[b]? = w.heap[b]? ∧ G'.Fr b = G.Fr b ∧ G'.ω b = p)
    (hnew : BoxR w' G' s ob') (hkept : Kp w0 A w') (hmine : ∀ b, G'.ω b ≠ .free → b < w'.heap.size ∧ (A b ∨ w0.heap.size ≤ b))
    (hsame : ∀ b, b < w0.heap.size → ¬ A b → G'.Fr b = F0 b) (hfresh : ∀ b, w'.heap.size ≤ b → G'.Fr b = 0) : SR w0 F0 A n (st.setAt s ob') a w' G' := by
  have key : ∀ s' ob1, (st.setAt s ob').at s' = some ob1 → BoxR w' G' s' ob1 := by
    intro s' ob1 h1
    rw [St.at_setAt hs] at h1
    split at h1
    · rename_i he; subst he; injection h1 with h1; subst h1; exact hnew
    · rename_i hne
      refine (h.at h1).keeps hx (fun t ht => ?_) (fun p hp => hk p (fun c => ?_) ?_)
      · cases s' with
        | loc t' => show G'.β t' = some t; rw [hβ]; exact ht
        | obj i' => show G'.Fr.θ i' = some t; rw [hθ]; exact ht
      · rcases hp with rfl | ⟨_, rfl⟩
        · simp
        · intro e; injection e with e _; exact hne e
      · rcases hp with rfl | ⟨_, rfl⟩
        · intro e; injection e with e; exact hne e
        · simp
  refine ⟨h.size, h.defers, fun t => ?_, fun t ob1 h1 => key (.loc t) ob1 h1, ⟨fun i ob1 h1 => key (.obj i) ob1 h1, fun i hi => ?_, fun g xs hg => ?_⟩, hkept, h.ext.trans hx, hmine, hsame, hfresh, fun u hu => by
    rw [hβ]
    refine h.nob u ?_
    have := St.at_setAt hs ob' (.loc u)
    split at this
    · rw [show (st.setAt s ob').at (.loc u) = (st.setAt s ob').b u from rfl, hu] at this; cases this
    · rw [show (st.setAt s ob').at (.loc u) = (st.setAt s ob').b u from rfl, hu] at this; exact this.symm⟩
  · rw [St.s_setAt]
    exact (h.slots t).keeps hx (fun _ _ _ => by rw [hβ]) (fun j => hk _ (by simp) (by simp))
  · rw [hθ]; rw [St.n_setAt] at hi; exact h.heap.ids i hi
  · rw [St.Γ_setAt] at hg; exact (h.heap.glob g xs hg).ext hx

theorem SR.turnCell (h : SR w0 F0 A n st a w G) {s : K} {c b : Nat} {cs : List AV} (hs : st.at s = some (.cells cs)) (hc : c < cs.length) (hb : G.ω b = .cell s c) (ho : Gh.Off G G' b)
    (hm : G.Fr b ≤ G'.Fr b) {x : AV} (hx : ∀ t vs, G.at s = some t → w.heap[t.b]? = some (.cells vs t.e (0, 0)) → ∀ (h' : c < vs.size), TC w G (.cell s c) cs[c] vs[c] → TC w G' (.cell s c) x vs[c]) :
    SR w0 F0 A n (st.setAt s (.cells (cs.set c x))) a w G' := by
  have hE : Ext w G.Fr w G'.Fr := ho.ext hm
  have hmine := h.mine b (by rw [hb]; simp)
  have hk : ∀ (p : Pos), p ≠ .cell s c → ∀ b', G.ω b' = p → b' < w.heap.size → w.heap[b']? = w.heap[b']? ∧ G'.Fr b' = G.Fr b' ∧ G'.ω b' = p := by
    intro p hp b' hb' _
    have hne : b' ≠ b := fun e => by subst e; exact hp (hb'.symm.trans hb)
    exact ⟨rfl, ho.Fr b' hne, by rw [ho.ω b' hne]; exact hb'⟩
  obtain ⟨t, h1, h2, hlt, h3, h4, vs, h5, h6, h7⟩ := h.at hs
  have hg : t.b ≠ b := fun e => by rw [e, hb] at h2; cases h2
  refine h.setBox hs hE ho.β ho.θ (fun p hp _ => hk p (hp c)) ⟨t, by rw [ho.at]; exact h1, by rw [ho.ω _ hg]; exact h2, hlt, by rw [ho.Fr _ hg]; exact h3, h4, vs, h5, by simpa using h6, fun i hi hi' => ?_⟩ h.kept (fun b' hb' => ?_) (fun b' hb' hA => ?_) (fun b' hb' => ?_)
  · have hi2 : i < cs.length := by simpa using hi
    refine ⟨(h7 i hi2 hi').1, ?_⟩
    by_cases hic : i = c
    · subst hic; simp only [List.getElem_set_self]; exact hx t vs h1 h5 hi' (h7 i hi2 hi').2
    · rw [List.getElem_set_ne (fun e => hic e.symm)]
      exact (h7 i hi2 hi').2.keeps hE (hk _ (by intro e; injection e with _ e; exact hic e))
  · by_cases hcb : b' = b
    · subst hcb; exact hmine
    · exact h.mine b' (by rw [← ho.ω b' hcb]; exact hb')
  · by_cases hcb : b' = b
    · subst hcb; rcases hmine.2 with h' | h'
      · exact absurd h' hA
      · omega
    · rw [ho.Fr b' hcb]; exact h.same b' hb' hA
  · by_cases hcb : b' = b
    · subst hcb; exact absurd hmine.1 (by omega)
    · rw [ho.Fr b' hcb]; exact h.fresh b' hb'

theorem set_self' (cs : List AV) (c : Nat) (h : c < cs.length) : cs.set c cs[c] = cs := by
  apply List.ext_getElem
  · simp
  · intro i h1 h2
    by_cases hic : c = i
    · subst hic; simp
    · rw [List.getElem_set_ne hic]

theorem SR.giveCell (h : SR w0 F0 A n st a w G) {s : K} {c : Nat} {cs : List AV} (hs : st.at s = some (.cells cs)) (hc : c < cs.length) :
    ∃ G', SR w0 F0 A n (st.setAt s (.cells (cs.set c (gvV cs[c])))) a w G' ∧ (∀ q x v, q ≠ .cell s c → TC w G q x v → TC w G' q x v) ∧ (∀ g, G.ω g ≠ .cell s c → G'.ω g = G.ω g) ∧ G'.β = G.β ∧ G'.Fr.θ = G.Fr.θ ∧ Ext w G.Fr w G'.Fr ∧
      (∀ t vs, G.at s = some t → w.heap[t.b]? = some (.cells vs t.e (0, 0)) → ∀ (h' : c < vs.size), CR w G'.Fr (gvV cs[c]) vs[c]) := by
  obtain ⟨t, h1, h2, hlt, h3, h4, vs, h5, h6, h7⟩ := h.at hs
  have hcv : c < vs.size := by omega
  have huniq : ∀ t' vs', G.at s = some t' → w.heap[t'.b]? = some (.cells vs' t'.e (0, 0)) → t' = t ∧ vs' = vs := by
    intro t' vs' ha hb
    rw [h1] at ha; injection ha with ha; subst ha
    rw [h5] at hb; injection hb with hb; injection hb with hb1 hb2; exact ⟨rfl, hb1.symm⟩
  have hT := (h7 c hc hcv).2
  by_cases hown : (cs[c]).isOwn = true
  · cases hx : cs[c] with
    | slice cl e1 sz xs => cases cl with
      | own f =>
        rw [hx] at hT
        obtain ⟨b, hb, hO⟩ := hT
        have hle : G.Fr b ≤ xs.length := by obtain ⟨_, _, _, _, _, _, _, h1, _⟩ := hO; exact h1
        have hm : G.Fr b ≤ (G.promise b xs.length .free).Fr b := by rw [Gh.promise_same]; exact hle
        have hE : Ext w G.Fr w (G.promise b xs.length .free).Fr := (G.promise_off b xs.length .free).ext hm
        have hC : CR w (G.promise b xs.length .free).Fr (gvV (AV.slice (.own f) e1 sz xs)) vs[c] := hO.frz hE (by rw [Gh.promise_same]; exact Nat.le_refl _) e1
        refine ⟨G.promise b xs.length .free, ?_, fun q x v hq hv => TC.turn (G.promise_off b xs.length .free) hE (by rw [hb]; exact fun e => hq e.symm) hv, fun g' hg' => (G.promise_off b xs.length .free).ω g' (fun e => hg' (e ▸ hb)), rfl, rfl, hE, ?_⟩
        · refine h.turnCell hs hc hb (G.promise_off b xs.length .free) hm (fun t' vs' ha hb' h' _ => ?_)
          obtain ⟨rfl, rfl⟩ := huniq t' vs' ha hb'
          exact TC_of_CR hC
        · intro t' vs' ha hb' h'
          obtain ⟨rfl, rfl⟩ := huniq t' vs' ha hb'
          exact hC
      | _ => rw [hx] at hown; simp [AV.isOwn] at hown
    | _ => rw [hx] at hown; simp [AV.isOwn] at hown
  · have he := frozen_of_not_own (by simpa using hown : (cs[c]).isOwn = false)
    refine ⟨G, ?_, fun _ _ _ _ h => h, fun _ _ => rfl, rfl, rfl, Ext.refl _ _, ?_⟩
    · rw [he, set_self' cs c hc, St.setAt_self hs]; exact h
    · intro t' vs' ha hb' h'
      obtain ⟨rfl, rfl⟩ := huniq t' vs' ha hb'
      rw [he]; exact CR_of_TC hT (by simpa using hown)

def giveAll : Nat → Nat → List AV → List AV
  | 0, _, cs => cs
  | k + 1, off, cs => giveAll k (off + 1) (cs.set off (gvV (cs.getD off .undef)))

theorem giveAll_length (k : Nat) : ∀ (off : Nat) (cs : List AV), (giveAll k off cs).length = cs.length := by
  induction k with
  | zero => intro off cs; rfl
  | succ k ih => intro off cs; simp [giveAll, ih]

theorem giveAll_get (k : Nat) : ∀ (off : Nat) (cs : List AV) (i : Nat), off + k ≤ cs.length → (giveAll k off cs)[i]? = if off ≤ i ∧ i < off + k then (cs[i]?).map gvV else cs[i]? := by
  induction k with
  | zero => intro off cs i _; simp only [giveAll]; rw [if_neg (by omega)]
  | succ k ih =>
    intro off cs i hle
    simp only [giveAll]
    rw [ih (off + 1) _ i (by simpa using (by omega : off + 1 + k ≤ cs.length))]
    by_cases h1 : i = off
    · subst h1
      rw [if_neg (by omega), if_pos (by omega)]
      have : i < cs.length := by omega
      simp [List.getElem?_set_self this, List.getElem?_eq_getElem this, List.getD]
    · have hne : off ≠ i := fun e => h1 e.symm
      simp only [List.getElem?_set_ne hne]
      by_cases h2 : off ≤ i ∧ i < off + (k + 1)
      · rw [if_pos h2, if_pos (by omega)]
      · rw [if_neg h2, if_neg (by omega)]

theorem giveAll_splice (k off : Nat) (cs : List AV) (h : off + k ≤ cs.length) : giveAll k off cs = splice cs off (((cs.drop off).take k).map gvV) := by
  apply List.ext_getElem?
  intro i
  rw [giveAll_get k off cs i h]
  unfold splice
  have hl : (((cs.drop off).take k).map gvV).length = k := by simp; omega
  have hto : (cs.take off).length = off := by simp; omega
  by_cases h1 : i < off
  · rw [if_neg (by omega), List.append_assoc, List.getElem?_append_left (by rw [hto]; exact h1), List.getElem?_take_of_lt h1]
  · by_cases h2 : i < off + k
    · rw [if_pos (by omega), List.getElem?_append_left (by rw [List.length_append, hto, hl]; exact h2), List.getElem?_append_right (by rw [hto]; omega), hto]
      simp only [List.getElem?_map, List.getElem?_take, List.getElem?_drop]
      rw [if_pos (by omega), show off + (i - off) = i by omega]
    · rw [if_neg (by omega), List.getElem?_append_right (by rw [List.length_append, hto, hl]; omega), List.length_append, hto, hl, List.getElem?_drop]
      congr 1; omega

theorem SR.giveRow (k : Nat) : ∀ {st : St} {G : Gh} (_ : SR w0 F0 A n st a w G) {s : K} {off : Nat} {cs : List AV} (_ : st.at s = some (.cells cs)) (_ : off + k ≤ cs.length),
    ∃ G', SR w0 F0 A n (st.setAt s (.cells (giveAll k off cs))) a w G' ∧ (∀ q x v, (∀ c, q ≠ .cell s c) → TC w G q x v → TC w G' q x v) ∧ (∀ g, (∀ c, G.ω g ≠ .cell s c) → G'.ω g = G.ω g) ∧ G'.β = G.β ∧ G'.Fr.θ = G.Fr.θ ∧ Ext w G.Fr w G'.Fr := by
  induction k with
  | zero =>
    intro st G h s off cs hs _
    refine ⟨G, ?_, fun _ _ _ _ h => h, fun _ _ => rfl, rfl, rfl, Ext.refl _ _⟩
    simp only [giveAll]; rw [St.setAt_self hs]; exact h
  | succ k ih =>
    intro st G h s off cs hs hle
    have hc : off < cs.length := by omega
    obtain ⟨G1, g1, g2, g5, g3, g3', g4, _⟩ := h.giveCell hs hc
    have hgd : cs.getD off .undef = cs[off] := by simp [List.getD, List.getElem?_eq_getElem hc]
    obtain ⟨G2, k1, k2, k5, k3, k3', k4⟩ := ih g1 (s := s) (off := off + 1) (cs := cs.set off (gvV cs[off])) (by rw [St.at_setAt hs, if_pos rfl]) (by simpa using (by omega : off + 1 + k ≤ cs.length))
    refine ⟨G2, ?_, fun q x v hq hv => k2 q x v hq (g2 q x v (hq off) hv), fun g hg => (k5 g (fun c => by rw [g5 g (hg off)]; exact hg c)).trans (g5 g (hg off)), k3.trans g3, k3'.trans g3', g4.trans k4⟩
    simp only [giveAll, hgd]
    rw [St.setAt_setAt hs] at k1; exact k1

end Go.Proofs.YtjlioidknhdceaaDoor.Abs
