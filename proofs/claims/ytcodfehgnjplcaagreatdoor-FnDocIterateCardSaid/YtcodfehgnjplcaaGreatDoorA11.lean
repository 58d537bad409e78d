/- A10, A11 -/
import Derived.Test.YtcodfehgnjplcaaGreatDoorA9
import Derived.Laws.CopyRow
/- How the state's relation is kept when the world changes: boxes. -/
namespace Go.Proofs.YtcodfehgnjplcaaGreatDoor.Abs
set_option linter.all false

variable {P : Program} {w w' : World} {G G' : Gh} {a : Act} {o : Oper}
variable {w0 : World} {F0 : FT} {A : Nat → Prop} {n : Nat} {st : St}

theorem ext_setRow {g : Nat} (h : G.Fr g = 0) (cs : Array Value) : Ext w G.Fr (w.setRow g cs) G.Fr :=
  ⟨fun _ => Nat.le_refl _, fun b o v ho hv => by
    have hne : b ≠ g := fun e => by subst e; omega
    rw [← hv]; exact World.cell?_of_block (a := ⟨b, o, none⟩) (setRow_other w g b cs hne), fun _ _ h => h, fun b vs e h1 h2 => ⟨vs, by
    have hne : b ≠ g := fun e => by subst e; omega
    rw [setRow_other w g b cs hne]; exact h2⟩⟩

theorem kp_setRow {g : Nat} (hk : Kp w0 A w) (hg : A g ∨ w0.heap.size ≤ g) (cs : Array Value) : Kp w0 A (w.setRow g cs) :=
  ⟨hk.os, hk.tape, hk.output, by rw [size_setRow]; exact hk.size, fun b hb hA => by
    rw [setRow_other w g b cs (fun e => by subst e; rcases hg with h | h; { exact hA h }; { omega })]
    exact hk.block b hb hA⟩

theorem St.at_setAt {st : St} {s : K} {ob : Obj} (hs : st.at s = some ob) (ob' : Obj) (s' : K) : (st.setAt s ob').at s' = if s' = s then some ob' else st.at s' := by
  cases s with
  | loc t =>
    cases s' with
    | loc t' => simp only [St.setAt, St.at, upd, K.loc.injEq]
    | obj i' => simp [St.setAt, St.at]
  | obj i =>
    cases s' with
    | loc t' => simp [St.setAt, St.at]
    | obj i' => simp only [St.setAt, St.at, K.obj.injEq]; exact H.get_set hs ob' i'

theorem St.n_setAt (st : St) (s : K) (ob : Obj) : (st.setAt s ob).h.n = st.h.n := by
  cases s with
  | loc t => rfl
  | obj i => exact H.n_set _ _ _
theorem St.Γ_setAt (st : St) (s : K) (ob : Obj) : (st.setAt s ob).h.Γ = st.h.Γ := by
  cases s with
  | loc t => rfl
  | obj i => exact H.Γ_set _ _ _
theorem St.s_setAt (st : St) (s : K) (ob : Obj) : (st.setAt s ob).s = st.s := by cases s <;> rfl

theorem St.setAt_self {st : St} {s : K} {ob : Obj} (hs : st.at s = some ob) : st.setAt s ob = st := by
  cases s with
  | loc t =>
    cases st
    simp only [St.setAt, St.at] at *
    congr 1
    funext j; simp only [upd]; split <;> simp_all
  | obj i =>
    cases st with
    | mk ss bb h =>
    simp only [St.setAt, St.at] at *
    congr 1
    obtain ⟨h1, h2⟩ := H.get_lt hs
    unfold H.set
    rw [if_neg (by omega)]
    unfold H.get at hs
    rw [if_neg (by omega)] at hs
    cases h with
    | mk base l Γ =>
    simp only at *
    congr 1
    apply List.ext_getElem?
    intro j
    by_cases hj : j = i - base
    · subst hj
      have hlt : i - base < l.length := by simp only [H.n] at h2; omega
      rw [List.getElem?_set_self hlt]
      cases hl : l[i - base]? with
      | none => rw [hl] at hs; cases hs
      | some o => rw [hl] at hs; cases o with
        | none => cases hs
        | some o => simp only [Option.join, Option.bind_some, id] at hs; rw [hs]
    · rw [List.getElem?_set_ne (fun e => hj e.symm)]

theorem St.setAt_setAt {st : St} {s : K} {ob : Obj} (hs : st.at s = some ob) (o1 o2 : Obj) : (st.setAt s o1).setAt s o2 = st.setAt s o2 := by
  cases s with
  | loc t =>
    simp only [St.setAt]
    congr 1
    funext j; simp only [upd]; split <;> rfl
  | obj i =>
    simp only [St.setAt]
    congr 1
    unfold H.set
    split
    · rfl
    · simp

theorem SR.setBox (h : SR w0 F0 A n st a w G) {s : K} {ob ob' : Obj} (hs : st.at s = some ob) (hx : Ext w G.Fr w' G'.Fr) (hβ : G'.β = G.β) (hθ : G'.Fr.θ = G.Fr.θ)
    (hk : ∀ p, (∀ c, p ≠ .cell s c) → p ≠ .box s → ∀ b, G.ω b = p → b < w.heap.size → w'.heap[b]? = w.heap[b]? ∧ G'.Fr b = G.Fr b ∧ G'.ω b = p)
    (hnew : BoxR w' G' s ob') (hkept : Kp w0 A w') (hmine : ∀ b, G'.ω b ≠ .free → b < w'.heap.size ∧ (A b ∨ w0.heap.size ≤ b))
    (hsame : ∀ b, b < w0.heap.size → ¬ A b → G'.Fr b = F0 b) (hfresh : ∀ b, w'.heap.size ≤ b → G'.Fr b = 0) : SR w0 F0 A n (st.setAt s ob') a w' G' := by
  have key : ∀ s' ob1, (st.setAt s ob').at s' = some ob1 → BoxR w' G' s' ob1 := by
    intro s' ob1 h1
    rw [St.at_setAt hs] at h1
    split at h1
    · rename_i he; subst he; injection h1 with h1; subst h1; exact hnew
    · rename_i hne
      refine (h.at h1).keeps hx (fun t ht => ?_) (fun p hp => hk p (fun c => ?_) ?_)
      · cases s' with
        | loc t' => show G'.β t' = some t; rw [hβ]; exact ht
        | obj i' => show G'.Fr.θ i' = some t; rw [hθ]; exact ht
      · rcases hp with rfl | ⟨_, rfl⟩
        · simp
        · intro e; injection e with e _; exact hne e
      · rcases hp with rfl | ⟨_, rfl⟩
        · intro e; injection e with e; exact hne e
        · simp
  refine ⟨h.size, h.defers, fun t => ?_, fun t ob1 h1 => key (.loc t) ob1 h1, ⟨fun i ob1 h1 => key (.obj i) ob1 h1, fun i hi => ?_, fun g xs hg => ?_⟩, hkept, h.ext.trans hx, hmine, hsame, hfresh, fun u hu => by
    rw [hβ]
    refine h.nob u ?_
    have := St.at_setAt hs ob' (.loc u)
    split at this
    · rw [show (st.setAt s ob').at (.loc u) = (st.setAt s ob').b u from rfl, hu] at this; cases this
    · rw [show (st.setAt s ob').at (.loc u) = (st.setAt s ob').b u from rfl, hu] at this; exact this.symm⟩
  · rw [St.s_setAt]
    exact (h.slots t).keeps hx (fun _ _ _ => by rw [hβ]) (fun j => hk _ (by simp) (by simp))
  · rw [hθ]; rw [St.n_setAt] at hi; exact h.heap.ids i hi
  · rw [St.Γ_setAt] at hg; exact (h.heap.glob g xs hg).ext hx

theorem SR.turnCell (h : SR w0 F0 A n st a w G) {s : K} {c b : Nat} {cs : List AV} (hs : st.at s = some (.cells cs)) (hc : c < cs.length) (hb : G.ω b = .cell s c) (ho : Gh.Off G G' b)
    (hm : G.Fr b ≤ G'.Fr b) {x : AV} (hx : ∀ t vs, G.at s = some t → w.heap[t.b]? = some (.cells vs t.e (0, 0)) → ∀ (h' : c < vs.size), TC w G (.cell s c) cs[c] vs[c] → TC w G' (.cell s c) x vs[c]) :
    SR w0 F0 A n (st.setAt s (.cells (cs.set c x))) a w G' := by
  have hE : Ext w G.Fr w G'.Fr := ho.ext hm
  have hmine := h.mine b (by rw [hb]; simp)
  have hk : ∀ (p : Pos), p ≠ .cell s c → ∀ b', G.ω b' = p → b' < w.heap.size → w.heap[b']? = w.heap[b']? ∧ G'.Fr b' = G.Fr b' ∧ G'.ω b' = p := by
    intro p hp b' hb' _
    have hne : b' ≠ b := fun e => by subst e; exact hp (hb'.symm.trans hb)
    exact ⟨rfl, ho.Fr b' hne, by rw [ho.ω b' hne]; exact hb'⟩
  obtain ⟨t, h1, h2, hlt, h3, h4, vs, h5, h6, h7⟩ := h.at hs
  have hg : t.b ≠ b := fun e => by rw [e, hb] at h2; cases h2
  refine h.setBox hs hE ho.β ho.θ (fun p hp _ => hk p (hp c)) ⟨t, by rw [ho.at]; exact h1, by rw [ho.ω _ hg]; exact h2, hlt, by rw [ho.Fr _ hg]; exact h3, h4, vs, h5, by simpa using h6, fun i hi hi' => ?_⟩ h.kept (fun b' hb' => ?_) (fun b' hb' hA => ?_) (fun b' hb' => ?_)
  · have hi2 : i < cs.length := by simpa using hi
    refine ⟨(h7 i hi2 hi').1, ?_⟩
    by_cases hic : i = c
    · subst hic; simp only [List.getElem_set_self]; exact hx t vs h1 h5 hi' (h7 i hi2 hi').2
    · rw [List.getElem_set_ne (fun e => hic e.symm)]
      exact (h7 i hi2 hi').2.keeps hE (hk _ (by intro e; injection e with _ e; exact hic e))
  · by_cases hcb : b' = b
    · subst hcb; exact hmine
    · exact h.mine b' (by rw [← ho.ω b' hcb]; exact hb')
  · by_cases hcb : b' = b
    · subst hcb; rcases hmine.2 with h' | h'
      · exact absurd h' hA
      · omega
    · rw [ho.Fr b' hcb]; exact h.same b' hb' hA
  · by_cases hcb : b' = b
    · subst hcb; exact absurd hmine.1 (by omega)
    · rw [ho.Fr b' hcb]; exact h.fresh b' hb'

theorem set_self' (cs : List AV) (c : Nat) (h : c < cs.length) : cs.set c cs[c] = cs := by
  apply List.ext_getElem
  · simp
  · intro i h1 h2
    by_cases hic : c = i
    · subst hic; simp
    · rw [List.getElem_set_ne hic]

theorem upd_self {α : Type} (s : Nat → α) (i : Nat) (v : α) (h : s i = v) : upd s i v = s := by
  funext j; simp only [upd]; split <;> simp_all

theorem SR.giveCell (h : SR w0 F0 A n st a w G) {s : K} {c : Nat} {cs : List AV} (hs : st.at s = some (.cells cs)) (hc : c < cs.length) :
    ∃ G', SR w0 F0 A n (st.setAt s (.cells (cs.set c (gvV cs[c])))) a w G' ∧ (∀ q x v, q ≠ .cell s c → TC w G q x v → TC w G' q x v) ∧ (∀ g, G.ω g ≠ .cell s c → G'.ω g = G.ω g) ∧ G'.β = G.β ∧ G'.Fr.θ = G.Fr.θ ∧ Ext w G.Fr w G'.Fr ∧
      (∀ t vs, G.at s = some t → w.heap[t.b]? = some (.cells vs t.e (0, 0)) → ∀ (h' : c < vs.size), CR w G'.Fr (gvV cs[c]) vs[c]) := by
  obtain ⟨t, h1, h2, hlt, h3, h4, vs, h5, h6, h7⟩ := h.at hs
  have hcv : c < vs.size := by omega
  have huniq : ∀ t' vs', G.at s = some t' → w.heap[t'.b]? = some (.cells vs' t'.e (0, 0)) → t' = t ∧ vs' = vs := by
    intro t' vs' ha hb
    rw [h1] at ha; injection ha with ha; subst ha
    rw [h5] at hb; injection hb with hb; injection hb with hb1 hb2; exact ⟨rfl, hb1.symm⟩
  have hT := (h7 c hc hcv).2
  by_cases hown : (cs[c]).isOwn = true
  · cases hx : cs[c] with
    | slice cl e1 sz xs => cases cl with
      | own f =>
        rw [hx] at hT
        obtain ⟨b, hb, hO⟩ := hT
        have hle : G.Fr b ≤ xs.length := by obtain ⟨_, _, _, _, _, _, _, h1, _⟩ := hO; exact h1
        have hm : G.Fr b ≤ (G.promise b xs.length .free).Fr b := by rw [Gh.promise_same]; exact hle
        have hE : Ext w G.Fr w (G.promise b xs.length .free).Fr := (G.promise_off b xs.length .free).ext hm
        have hC : CR w (G.promise b xs.length .free).Fr (gvV (AV.slice (.own f) e1 sz xs)) vs[c] := hO.frz hE (by rw [Gh.promise_same]; exact Nat.le_refl _) e1
        refine ⟨G.promise b xs.length .free, ?_, fun q x v hq hv => TC.turn (G.promise_off b xs.length .free) hE (by rw [hb]; exact fun e => hq e.symm) hv, fun g' hg' => (G.promise_off b xs.length .free).ω g' (fun e => hg' (e ▸ hb)), rfl, rfl, hE, ?_⟩
        · refine h.turnCell hs hc hb (G.promise_off b xs.length .free) hm (fun t' vs' ha hb' h' _ => ?_)
          obtain ⟨rfl, rfl⟩ := huniq t' vs' ha hb'
          exact TC_of_CR hC
        · intro t' vs' ha hb' h'
          obtain ⟨rfl, rfl⟩ := huniq t' vs' ha hb'
          exact hC
      | _ => rw [hx] at hown; simp [AV.isOwn] at hown
    | _ => rw [hx] at hown; simp [AV.isOwn] at hown
  · have he := frozen_of_not_own (by simpa using hown : (cs[c]).isOwn = false)
    refine ⟨G, ?_, fun _ _ _ _ h => h, fun _ _ => rfl, rfl, rfl, Ext.refl _ _, ?_⟩
    · rw [he, set_self' cs c hc, St.setAt_self hs]; exact h
    · intro t' vs' ha hb' h'
      obtain ⟨rfl, rfl⟩ := huniq t' vs' ha hb'
      rw [he]; exact CR_of_TC hT (by simpa using hown)

def giveAll : Nat → Nat → List AV → List AV
  | 0, _, cs => cs
  | k + 1, off, cs => giveAll k (off + 1) (cs.set off (gvV (cs.getD off .undef)))

theorem giveAll_length (k : Nat) : ∀ (off : Nat) (cs : List AV), (giveAll k off cs).length = cs.length := by
  induction k with
  | zero => intro off cs; rfl
  | succ k ih => intro off cs; simp [giveAll, ih]

theorem giveAll_get (k : Nat) : ∀ (off : Nat) (cs : List AV) (i : Nat), off + k ≤ cs.length → (giveAll k off cs)[i]? = if off ≤ i ∧ i < off + k then (cs[i]?).map gvV else cs[i]? := by
  induction k with
  | zero => intro off cs i _; simp only [giveAll]; rw [if_neg (by omega)]
  | succ k ih =>
    intro off cs i hle
    simp only [giveAll]
    rw [ih (off + 1) _ i (by simpa using (by omega : off + 1 + k ≤ cs.length))]
    by_cases h1 : i = off
    · subst h1
      rw [if_neg (by omega), if_pos (by omega)]
      have : i < cs.length := by omega
      simp [List.getElem?_set_self this, List.getElem?_eq_getElem this, List.getD]
    · have hne : off ≠ i := fun e => h1 e.symm
      simp only [List.getElem?_set_ne hne]
      by_cases h2 : off ≤ i ∧ i < off + (k + 1)
      · rw [if_pos h2, if_pos (by omega)]
      · rw [if_neg h2, if_neg (by omega)]

theorem giveAll_splice (k off : Nat) (cs : List AV) (h : off + k ≤ cs.length) : giveAll k off cs = splice cs off (((cs.drop off).take k).map gvV) := by
  apply List.ext_getElem?
  intro i
  rw [giveAll_get k off cs i h]
  unfold splice
  have hl : (((cs.drop off).take k).map gvV).length = k := by simp; omega
  have hto : (cs.take off).length = off := by simp; omega
  by_cases h1 : i < off
  · rw [if_neg (by omega), List.append_assoc, List.getElem?_append_left (by rw [hto]; exact h1), List.getElem?_take_of_lt h1]
  · by_cases h2 : i < off + k
    · rw [if_pos (by omega), List.getElem?_append_left (by rw [List.length_append, hto, hl]; exact h2), List.getElem?_append_right (by rw [hto]; omega), hto]
      simp only [List.getElem?_map, List.getElem?_take, List.getElem?_drop]
      rw [if_pos (by omega), show off + (i - off) = i by omega]
    · rw [if_neg (by omega), List.getElem?_append_right (by rw [List.length_append, hto, hl]; omega), List.length_append, hto, hl, List.getElem?_drop]
      congr 1; omega

theorem SR.giveRow (k : Nat) : ∀ {st : St} {G : Gh} (_ : SR w0 F0 A n st a w G) {s : K} {off : Nat} {cs : List AV} (_ : st.at s = some (.cells cs)) (_ : off + k ≤ cs.length),
    ∃ G', SR w0 F0 A n (st.setAt s (.cells (giveAll k off cs))) a w G' ∧ (∀ q x v, (∀ c, q ≠ .cell s c) → TC w G q x v → TC w G' q x v) ∧ (∀ g, (∀ c, G.ω g ≠ .cell s c) → G'.ω g = G.ω g) ∧ G'.β = G.β ∧ G'.Fr.θ = G.Fr.θ ∧ Ext w G.Fr w G'.Fr := by
  induction k with
  | zero =>
    intro st G h s off cs hs _
    refine ⟨G, ?_, fun _ _ _ _ h => h, fun _ _ => rfl, rfl, rfl, Ext.refl _ _⟩
    simp only [giveAll]; rw [St.setAt_self hs]; exact h
  | succ k ih =>
    intro st G h s off cs hs hle
    have hc : off < cs.length := by omega
    obtain ⟨G1, g1, g2, g5, g3, g3', g4, _⟩ := h.giveCell hs hc
    have hgd : cs.getD off .undef = cs[off] := by simp [List.getD, List.getElem?_eq_getElem hc]
    obtain ⟨G2, k1, k2, k5, k3, k3', k4⟩ := ih g1 (s := s) (off := off + 1) (cs := cs.set off (gvV cs[off])) (by rw [St.at_setAt hs, if_pos rfl]) (by simpa using (by omega : off + 1 + k ≤ cs.length))
    refine ⟨G2, ?_, fun q x v hq hv => k2 q x v hq (g2 q x v (hq off) hv), fun g hg => (k5 g (fun c => by rw [g5 g (hg off)]; exact hg c)).trans (g5 g (hg off)), k3.trans g3, k3'.trans g3', g4.trans k4⟩
    simp only [giveAll, hgd]
    rw [St.setAt_setAt hs] at k1; exact k1

end Go.Proofs.YtcodfehgnjplcaaGreatDoor.Abs

/- Loads. -/
namespace Go.Proofs.YtcodfehgnjplcaaGreatDoor.Abs
set_option linter.all false

variable {P : Program} {w w' : World} {G G' : Gh} {a : Act} {o : Oper}
variable {w0 : World} {F0 : FT} {A : Nat → Prop} {n : Nat} {st : St}

theorem runs_load_agg {t : TypeId} {x : Operand} (ho : o.op = .load t x) (ha : tagg P t = some true) {k : Nat} (hn : tsize P t = some k) {ad : Addr} (hx : a.eval x = .pointer (some ad)) (hs : ad.spot = none)
    {f : Nat → Value} (hc : ∀ j, j < k → w.cell? ⟨ad.block, ad.off + j, none⟩ = some (f j)) : Runs P o a w (.agg ((List.range k).map f).toArray) w := by
  have hl : (loadCells ad k).run P w = .ok ((List.range k).map f).toArray w := by
    have := run_loadCells_list (P := P) w ad ((List.range k).map f) (fun j v hj => by
      rw [add_off ad hs]
      have hj' : j < k := by simpa using (List.getElem?_eq_some_iff.1 hj).1
      rw [hc j hj', ← hj]; simp [hj'])
    simpa using this
  simp [Runs, execOp, ho, hx, Instr.loadAt, Instr.sureAddr, loadVar, run_isAgg_true ha, run_sizeOf' hn, hl]

theorem runs_load_one {t : TypeId} {x : Operand} (ho : o.op = .load t x) (ha : tagg P t = some false) {ad : Addr} (hx : a.eval x = .pointer (some ad))
    {v : Value} (hc : w.cell? ad = some v) : Runs P o a w v w := by
  simp [Runs, execOp, ho, hx, Instr.loadAt, Instr.sureAddr, loadVar, run_isAgg_false ha, hc]

theorem SR.turnCell' (h : SR w0 F0 A n st a w G) {s : K} {c b : Nat} {cs : List AV} (hs : st.at s = some (.cells cs)) (hc : c < cs.length) (hb : G.ω b = .cell s c) (ho : Gh.Off G G' b)
    (hm : G.Fr b ≤ G'.Fr b) {x : AV} {v : Value} (hv : ∃ t vs, G.at s = some t ∧ w.heap[t.b]? = some (.cells vs t.e (0, 0)) ∧ vs[c]? = some v) (hx : TC w G' (.cell s c) x v) :
    SR w0 F0 A n (st.setAt s (.cells (cs.set c x))) a w G' := by
  refine h.turnCell hs hc hb ho hm (fun t vs h1 h2 h' _ => ?_)
  obtain ⟨t', vs', k1, k2, k3⟩ := hv
  rw [h1] at k1; injection k1 with k1; subst k1
  rw [h2] at k2; injection k2 with k2; injection k2 with k2 _; subst k2
  rw [Array.getElem?_eq_getElem h'] at k3; injection k3 with k3; rw [k3]; exact hx

theorem splice_one (cs : List AV) (c : Nat) (x : AV) (h : c < cs.length) : splice cs c [x] = cs.set c x := by
  unfold splice
  rw [List.set_eq_take_append_cons_drop, if_pos h]
  simp

theorem cpV_not_own {m : Mode} {x : AV} (h : x.isOwn = false) (h' : x.several = false) : cpV m x = x ∧ cpS m x = x := by
  cases x with
  | slice c e sz xs => cases c <;> first | (simp [AV.isOwn] at h; done) | (cases m <;> exact ⟨rfl, rfl⟩)
  | tup xs => simp [AV.several] at h'
  | _ => cases m <;> exact ⟨rfl, rfl⟩

theorem load_gl (h : SR w0 F0 A n st a w G) {t : TypeId} {x : Operand} (ho : o.op = .load t x) {ag : Bool} (ha : tagg P t = some ag) {k : Nat} (hn : tsize P t = some k)
    {p : Nat → Pos} {g : Nat} (hp : TR w G p (.gl g) (a.eval x)) {m : Mode} {v : AV} {st' : St} (hr : ldV m ag k (.gl g) st = some (v, st')) :
    st' = st ∧ ∃ vv, CR w G.Fr v vv ∧ ∀ w', Pres (fun _ => none) G w w' → Runs P o a w' vv w' := by
  have agg : ∀ {xs : List AV} {f : Nat → Value}, xs.length = k → (∀ i, i < k → (f i).oneCell' = true) → (∀ i (hi : i < xs.length), CR w G.Fr xs[i] (f i)) → CR w G.Fr (.agg xs) (.agg ((List.range k).map f).toArray) := fun hl h1 h2 => by
    refine .agg _ _ (by simp; omega) (fun i hi => ?_) (fun i hi hi' => ?_)
    · simp at hi ⊢; exact h1 i hi
    · simp at hi hi' ⊢; exact h2 i (by omega)
  simp only [ldV, Option.map_eq_some_iff] at hr
  obtain ⟨v0, hv0, hr⟩ := hr
  injection hr with hr1 hr2; subst hr1; subst hr2
  refine ⟨rfl, ?_⟩
  have hpe := TR_gl hp
  unfold glV at hv0
  split at hv0
  · rename_i ys hg
    split at hv0
    · rename_i hle
      injection hv0 with hv0; subst hv0
      have hc := h.heap.glob _ _ hg
      generalize hvv : Value.pointer (some ⟨g, 0, none⟩) = vv at hc
      cases hc with
      | eptr ad _ vs hs hpp hcell hone hcr =>
      injection hvv with hvv; injection hvv with hvv; subst hvv
      refine ⟨_, agg (f := vs) (by simp; omega) (fun i hi => hone i (by omega)) (fun i hi => ?_), fun w' hw' => ?_⟩
      · have := hcr i (by simp at hi; omega); simpa using this
      · exact runs_load_agg ho ha hn hpe hs (fun j hj => hw'.cell _ _ _ (hpp j (by omega)) (hcell j (by omega)))
    · cases hv0
  · rename_i y ys hg
    injection hv0 with hv0; subst hv0
    have hc := h.heap.glob _ _ hg
    generalize hvv : Value.pointer (some ⟨g, 0, none⟩) = vv at hc
    cases hc with
    | eptr ad _ vs hs hpp hcell hone hcr =>
    injection hvv with hvv; injection hvv with hvv; subst hvv
    refine ⟨vs 0, hcr 0 (by simp), fun w' hw' => ?_⟩
    refine runs_load_one ho ha hpe ?_
    have := hw'.cell _ _ _ (hpp 0 (by simp)) (hcell 0 (by simp))
    simpa using this
  · split at hv0
    · rename_i hk0
      injection hv0 with hv0; subst hv0; subst hk0
      exact ⟨_, agg (xs := []) (f := fun _ => undef) (by simp) (fun i hi => absurd hi (by omega)) (fun i hi => absurd hi (by simp)), fun w' _ => runs_load_agg ho ha hn hpe rfl (fun j hj => absurd hj (by omega))⟩
    · cases hv0
  · cases hv0

theorem load_sound (h : SR w0 F0 A n st a w G) {t : TypeId} {x : Operand} (ho : o.op = .load t x) {ag : Bool} (ha : tagg P t = some ag) {k : Nat} (hn : tsize P t = some k)
    {p : Nat → Pos} {pv : AV} (hp : TR w G p pv (a.eval x)) {m : Mode} {v : AV} {st' : St} (hr : ldV m ag k pv st = some (v, st')) (q : Nat → Pos) (hq : q 0 ≠ .free) (hqb : ∀ s, q 0 ≠ .box s) :
    ∃ G' vv, SR w0 F0 A n st' a w G' ∧ TR w G' q v vv ∧ (∀ w', Pres st.at G w w' → Runs P o a w' vv w') ∧ G'.β = G.β ∧ Ext w G.Fr w G'.Fr ∧ (∀ s g, G.ω g = .box s → G'.ω g = .box s) ∧ (∀ q x v, (∀ s c, q ≠ .cell s c) → TC w G q x v → TC w G' q x v) ∧ G'.Fr.θ = G.Fr.θ := by
  have still : ∀ {v : AV} {vv : Value}, CR w G.Fr v vv → (∀ w', Pres st.at G w w' → Runs P o a w' vv w') → st' = st →
      ∃ G' vv, SR w0 F0 A n st' a w G' ∧ TR w G' q v vv ∧ (∀ w', Pres st.at G w w' → Runs P o a w' vv w') ∧ G'.β = G.β ∧ Ext w G.Fr w G'.Fr ∧ (∀ s g, G.ω g = .box s → G'.ω g = .box s) ∧ (∀ q x v, (∀ s c, q ≠ .cell s c) → TC w G q x v → TC w G' q x v) ∧ G'.Fr.θ = G.Fr.θ :=
    fun hC hR hst => ⟨G, _, hst ▸ h, TR_of_CR hC, hR, rfl, Ext.refl _ _, fun _ _ h => h, fun _ _ _ _ h => h, rfl⟩
  have agg : ∀ {xs : List AV} {f : Nat → Value}, xs.length = k → (∀ i, i < k → (f i).oneCell' = true) → (∀ i (hi : i < xs.length), CR w G.Fr xs[i] (f i)) → CR w G.Fr (.agg xs) (.agg ((List.range k).map f).toArray) := fun hl h1 h2 => by
    refine .agg _ _ (by simp; omega) (fun i hi => ?_) (fun i hi hi' => ?_)
    · simp at hi ⊢; exact h1 i hi
    · simp at hi hi' ⊢; exact h2 i (by omega)
  unfold ldV at hr
  split at hr
  · rename_i site off
    simp only [Option.bind_eq_some_iff, Option.map_eq_some_iff] at hr
    obtain ⟨ob, hs, ⟨v1, ob'⟩, hld, hr⟩ := hr
    injection hr with hr1 hr2
    simp only at hr1 hr2
    subst hr1; subst hr2
    obtain ⟨th, h1, h2, hlt, h3⟩ := h.at hs
    obtain ⟨t0, ht0, hpe⟩ := TR_ptr hp
    rw [h1] at ht0; injection ht0 with ht0; subst ht0
    unfold ldO at hld
    split at hld
    · rename_i cs
      split at hld
      · rename_i hle
        injection hld with hld; injection hld with hr1 hr2; subst hr1; subst hr2
        obtain ⟨j1, j2, vs, h4, h5, h6⟩ := h3
        obtain ⟨G', k1, k2, k5, k3, k3', k4⟩ := h.giveRow k hs hle
        rw [giveAll_splice k off cs hle] at k1
        obtain ⟨t', i1, i2, i3, _, _, vs', i4, i5, i6⟩ := k1.at (s := site) (ob := .cells (splice cs off (((cs.drop off).take k).map gvV))) (by rw [St.at_setAt hs, if_pos rfl])
        have hat' : G'.at site = G.at site := by
          cases site with
          | loc s => exact congrFun k3 s
          | obj i => exact congrFun k3' i
        rw [hat', h1] at i1; injection i1 with i1; subst i1
        rw [h4] at i4; injection i4 with i4; injection i4 with i4 _; subst i4
        refine ⟨G', .agg ((List.range k).map (fun i => vs.getD (off + i) undef)).toArray, k1, TR_of_CR ?_, fun w' hw' => ?_, k3, k4, fun s g' hg' => ?_, fun q x v hq hT => k2 q x v (fun c => hq _ c) hT, k3'⟩
        · have hlen : ((cs.drop off).take k).length = k := by simp; omega
          refine .agg _ _ (by simp; omega) (fun i hi => ?_) (fun i hi hi' => ?_)
          · have hik : i < k := by simpa using hi
            have := (h6 (off + i) (by omega) (by omega)).1
            simpa [Array.getD, (by omega : off + i < vs.size)] using this
          · have hik : i < k := by simpa using hi'
            have hsp : (splice cs off (((cs.drop off).take k).map gvV))[off + i]? = (cs[off + i]?).map gvV := by
              rw [← giveAll_splice k off cs hle, giveAll_get k off cs _ hle, if_pos (by omega)]
            have hlt : off + i < cs.length := by omega
            have hlt2 : off + i < (splice cs off (((cs.drop off).take k).map gvV)).length := by
              rw [← giveAll_splice k off cs hle, giveAll_length]; exact hlt
            have hT := (i6 (off + i) hlt2 (by omega)).2
            rw [List.getElem?_eq_getElem hlt2, List.getElem?_eq_getElem hlt] at hsp
            simp only [Option.map_some, Option.some.injEq] at hsp
            rw [hsp] at hT
            have hno : (gvV cs[off + i]).isOwn = false := by cases cs[off + i] <;> first | rfl | (rename_i c _ _ _; cases c <;> rfl)
            have := CR_of_TC hT hno
            simpa [Array.getD, (by omega : off + i < vs.size)] using this
        · refine runs_load_agg ho ha hn hpe rfl (fun j hj => ?_)
          have hh := hw'.box _ _ _ hs h1
          have hlt : off + j < vs.size := by omega
          simp only [World.cell?, hh, h4]
          simp [Array.getElem?_eq_getElem hlt, Array.getD, hlt]
        · rw [k5 g' (fun c => by rw [hg']; intro e; cases e)]; exact hg'
      · cases hld
    · rename_i cs
      simp only [Option.map_eq_some_iff] at hld
      obtain ⟨v0, hv0, hld⟩ := hld
      injection hld with hr1 hr2; subst hr1; subst hr2
      have hlt : off < cs.length := (List.getElem?_eq_some_iff.1 hv0).1
      have hv0' : cs[off] = v0 := (List.getElem?_eq_some_iff.1 hv0).2
      obtain ⟨j1, j2, vs, h4, h5, h6⟩ := h3
      have hltv : off < vs.size := by omega
      have hT := (h6 off hlt hltv).2
      rw [hv0'] at hT
      have hrun : ∀ w', Pres st.at G w w' → Runs P o a w' vs[off] w' := fun w' hw' => by
        refine runs_load_one ho ha hpe ?_
        have hh := hw'.box _ _ _ hs h1
        simp only [World.cell?, hh, h4]
        simp [Array.getElem?_eq_getElem hltv]
      have hex : ∃ t' vs', G.at site = some t' ∧ w.heap[t'.b]? = some (.cells vs' t'.e (0, 0)) ∧ vs'[off]? = some vs[off] := ⟨th, vs, h1, h4, Array.getElem?_eq_getElem hltv⟩
      by_cases hown : v0.isOwn = true
      · cases v0 with
        | slice c e1 sz xs => cases c with
          | own f =>
            obtain ⟨b, hb, hO⟩ := hT
            have hne : ∀ s' g', G.ω g' = .box s' → g' ≠ b := fun s' g' hg' e => by subst e; rw [hb] at hg'; cases hg'
            cases m with
            | take =>
              have hoff : Gh.Off G ⟨G.Fr, G.β, upd G.ω b (q 0)⟩ b := ⟨fun _ _ => rfl, rfl, rfl, fun c hc => upd_ne _ _ _ _ hc⟩
              have := h.turnCell' hs hlt hb hoff (Nat.le_refl _) (x := .slice .hdr e1 sz xs) hex (TC_of_CR (hO.hdr e1))
              refine ⟨⟨G.Fr, G.β, upd G.ω b (q 0)⟩, vs[off], ?_, TR_of_TC ⟨b, by simp [upd], hO⟩ rfl, hrun, rfl, Ext.refl _ _, fun s' g' hg' => by simp only; rw [upd_ne _ _ _ _ (hne s' g' hg')]; exact hg', fun q' x v hq' hT => TC.turn hoff (Ext.refl _ _) (by rw [hb]; exact fun e => hq' _ _ e.symm) hT, rfl⟩
              show SR w0 F0 A n (st.setAt site (.cells (splice cs off [cpS .take (AV.slice (.own f) e1 sz xs)]))) a w _
              rw [splice_one cs off _ hlt]; exact this
            | look =>
              have hle : G.Fr b ≤ xs.length := by obtain ⟨_, _, _, _, _, _, _, h1, _⟩ := hO; exact h1
              have hm : G.Fr b ≤ (G.promise b xs.length (.cell site off)).Fr b := by rw [Gh.promise_same]; exact hle
              have hE : Ext w G.Fr w (G.promise b xs.length (.cell site off)).Fr := (G.promise_off b xs.length (.cell site off)).ext hm
              have := h.turnCell' hs hlt hb (G.promise_off b xs.length (.cell site off)) hm (x := .slice (.own false) e1 sz xs) hex ⟨b, by simp [Gh.promise, upd_same], hO.shared hE (by rw [Gh.promise_same]; exact Nat.le_refl _)⟩
              refine ⟨G.promise b xs.length (.cell site off), vs[off], ?_, TR_of_CR (hO.frz hE (by rw [Gh.promise_same]; exact Nat.le_refl _) e1), hrun, rfl, hE, fun s' g' hg' => by rw [(G.promise_off b xs.length (.cell site off)).ω g' (hne s' g' hg')]; exact hg', fun q' x v hq' hT => TC.turn (G.promise_off b xs.length (.cell site off)) hE (by rw [hb]; exact fun e => hq' _ _ e.symm) hT, rfl⟩
              show SR w0 F0 A n (st.setAt site (.cells (splice cs off [cpS .look (AV.slice (.own f) e1 sz xs)]))) a w _
              rw [splice_one cs off _ hlt]; exact this
            | head =>
              refine ⟨G, vs[off], ?_, TR_of_CR (hO.hdr e1), hrun, rfl, Ext.refl _ _, fun _ _ h => h, fun _ _ _ _ h => h, rfl⟩
              show SR w0 F0 A n (st.setAt site (.cells (splice cs off [AV.slice (.own f) e1 sz xs]))) a w _
              rw [splice_one cs off _ hlt, ← hv0', set_self' cs off hlt, St.setAt_self hs]; exact h
          | _ => simp [AV.isOwn] at hown
        | _ => simp [AV.isOwn] at hown
      · have hC := CR_of_TC hT (by simpa using hown)
        have hsev : v0.several = false := by cases v0 <;> first | rfl | cases hC
        obtain ⟨e1, e2⟩ := cpV_not_own (m := m) (by simpa using hown) hsev
        refine ⟨G, vs[off], ?_, by rw [e1]; exact TR_of_CR hC, hrun, rfl, Ext.refl _ _, fun _ _ h => h, fun _ _ _ _ h => h, rfl⟩
        rw [e2, splice_one cs off _ hlt, ← hv0', set_self' cs off hlt, St.setAt_self hs]; exact h
    · rename_i e sz cs
      split at hld
      · rename_i hle
        injection hld with hld; injection hld with hr1 hr2; subst hr1; subst hr2
        obtain ⟨_, _, _, _, _, j1, _, vs, h4, h5, h6⟩ := h3
        refine still (agg (f := fun i => vs.getD (off + i) undef) (by simp; omega) (fun i hi => ?_) (fun i hi => ?_)) (fun w' hw' => ?_) (St.setAt_self hs)
        · have := (h6 (off + i) (by omega) (by omega)).1
          simpa [Array.getD, (by omega : off + i < vs.size)] using this
        · have hik : i < k := by simp at hi; omega
          have := (h6 (off + i) (by omega) (by omega)).2
          simpa [Array.getD, (by omega : off + i < vs.size)] using this
        · refine runs_load_agg ho ha hn hpe rfl (fun j hj => ?_)
          have hh := hw'.box _ _ _ hs h1
          have hlt : off + j < vs.size := by omega
          simp only [World.cell?, hh, h4]
          simp [Array.getElem?_eq_getElem hlt, Array.getD, hlt]
      · cases hld
    · rename_i e sz cs
      simp only [Option.map_eq_some_iff] at hld
      obtain ⟨v0, hv0, hld⟩ := hld
      injection hld with hr1 hr2; subst hr1; subst hr2
      have hlt : off < cs.length := (List.getElem?_eq_some_iff.1 hv0).1
      have hv0' : cs[off] = v0 := (List.getElem?_eq_some_iff.1 hv0).2
      obtain ⟨_, _, _, _, _, j1, _, vs, h4, h5, h6⟩ := h3
      have hltv : off < vs.size := by omega
      refine still (vv := vs[off]) (by rw [← hv0']; exact (h6 off hlt hltv).2) (fun w' hw' => ?_) (St.setAt_self hs)
      refine runs_load_one ho ha hpe ?_
      have hh := hw'.box _ _ _ hs h1
      simp only [World.cell?, hh, h4]
      simp [Array.getElem?_eq_getElem hltv]
    · rename_i cs
      split at hld
      · rename_i hle
        injection hld with hld; injection hld with hr1 hr2; subst hr1; subst hr2
        have h3' : CR w G.Fr (.eptr cs) (.pointer (some ⟨th.b, 0, none⟩)) := h3
        generalize hvv : Value.pointer (some ⟨th.b, 0, none⟩) = vv at h3'
        cases h3' with
        | eptr ad _ vs hsp hpp hcell hone hcr =>
        injection hvv with hvv; injection hvv with hvv; subst hvv
        refine still (agg (f := fun i => vs (off + i)) (by simp; omega) (fun i hi => hone _ (by omega)) (fun i hi => ?_)) (fun w' hw' => ?_) (St.setAt_self hs)
        · have hik : i < k := by simp at hi; omega
          simpa using hcr (off + i) (by omega)
        · refine runs_load_agg ho ha hn hpe rfl (fun j hj => ?_)
          have := hw'.cell _ _ _ (hpp (off + j) (by omega)) (hcell (off + j) (by omega))
          simpa using this
      · cases hld
    · rename_i cs
      simp only [Option.map_eq_some_iff] at hld
      obtain ⟨v0, hv0, hld⟩ := hld
      injection hld with hr1 hr2; subst hr1; subst hr2
      have hlt : off < cs.length := (List.getElem?_eq_some_iff.1 hv0).1
      have hv0' : cs[off] = v0 := (List.getElem?_eq_some_iff.1 hv0).2
      have h3' : CR w G.Fr (.eptr cs) (.pointer (some ⟨th.b, 0, none⟩)) := h3
      generalize hvv : Value.pointer (some ⟨th.b, 0, none⟩) = vv at h3'
      cases h3' with
      | eptr ad _ vs hsp hpp hcell hone hcr =>
      injection hvv with hvv; injection hvv with hvv; subst hvv
      refine still (vv := vs off) (by rw [← hv0']; exact hcr off hlt) (fun w' hw' => ?_) (St.setAt_self hs)
      refine runs_load_one ho ha hpe ?_
      have := hw'.cell _ _ _ (hpp off hlt) (hcell off hlt)
      simpa using this
    · cases hld
  · rename_i ys
    split at hr
    · rename_i hle
      injection hr with hr; injection hr with hr1 hr2; subst hr1; subst hr2
      obtain ⟨ad, hpe, hc⟩ := TR_eptr hp
      cases hc with
      | eptr _ _ vs hs hpp hcell hone hcr =>
      refine still (agg (f := vs) (by simp; omega) (fun i hi => hone i (by omega)) (fun i hi => ?_)) (fun w' hw' => ?_) rfl
      · have := hcr i (by simp at hi; omega); simpa using this
      · exact runs_load_agg ho ha hn hpe hs (fun j hj => hw'.cell _ _ _ (hpp j (by omega)) (hcell j (by omega)))
    · cases hr
  · rename_i y ys
    injection hr with hr; injection hr with hr1 hr2; subst hr1; subst hr2
    obtain ⟨ad, hpe, hc⟩ := TR_eptr hp
    cases hc with
    | eptr _ _ vs hs hpp hcell hone hcr =>
    refine still (vv := vs 0) (hcr 0 (by simp)) (fun w' hw' => ?_) rfl
    refine runs_load_one ho ha hpe ?_
    have := hw'.cell _ _ _ (hpp 0 (by simp)) (hcell 0 (by simp))
    have e : ad = ⟨ad.block, ad.off + 0, none⟩ := by cases ad; simp at hs; subst hs; rfl
    rw [e]; exact this
  · rename_i ag g
    simp only [Option.map_eq_some_iff] at hr
    obtain ⟨v0, hv0, hr⟩ := hr
    injection hr with hr1 hr2; subst hr1; subst hr2
    have hpe := TR_gl hp
    unfold glV at hv0
    split at hv0
    · rename_i ys hg
      split at hv0
      · rename_i hle
        injection hv0 with hv0; subst hv0
        have hc := h.heap.glob _ _ hg
        generalize hvv : Value.pointer (some ⟨g, 0, none⟩) = vv at hc
        cases hc with
        | eptr ad _ vs hs hpp hcell hone hcr =>
        injection hvv with hvv; injection hvv with hvv; subst hvv
        refine still (agg (f := vs) (by simp; omega) (fun i hi => hone i (by omega)) (fun i hi => ?_)) (fun w' hw' => ?_) rfl
        · have := hcr i (by simp at hi; omega); simpa using this
        · exact runs_load_agg ho ha hn hpe hs (fun j hj => hw'.cell _ _ _ (hpp j (by omega)) (hcell j (by omega)))
      · cases hv0
    · rename_i y ys hg
      injection hv0 with hv0; subst hv0
      have hc := h.heap.glob _ _ hg
      generalize hvv : Value.pointer (some ⟨g, 0, none⟩) = vv at hc
      cases hc with
      | eptr ad _ vs hs hpp hcell hone hcr =>
      injection hvv with hvv; injection hvv with hvv; subst hvv
      refine still (vv := vs 0) (hcr 0 (by simp)) (fun w' hw' => ?_) rfl
      refine runs_load_one ho ha hpe ?_
      have := hw'.cell _ _ _ (hpp 0 (by simp)) (hcell 0 (by simp))
      simpa using this
    · split at hv0
      · rename_i h0
        injection hv0 with hv0; subst hv0; subst h0
        refine still (vv := .agg #[]) (.agg [] #[] rfl (fun i hi => absurd hi (by simp)) (fun i hi => absurd hi (by simp))) (fun w' _ => ?_) rfl
        simpa using runs_load_agg (w := w') (k := 0) (f := fun _ => undef) ho ha hn hpe rfl (fun j hj => absurd hj (by omega))
      · cases hv0
    · cases hv0
  · cases hr

end Go.Proofs.YtcodfehgnjplcaaGreatDoor.Abs
