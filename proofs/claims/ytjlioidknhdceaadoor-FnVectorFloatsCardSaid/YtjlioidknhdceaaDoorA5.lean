/- Operands: what is peeked at, given, taken, copied. -/
import Derived.Test.YtjlioidknhdceaaDoorA4
namespace Go.Proofs.YtjlioidknhdceaaDoor.Abs
set_option linter.all false

theorem ofCell_CR {w : World} {Fr : FT} {v : Value} {x : AV} (h : ofCell v = some x) : CR w Fr x v ∧ v.oneCell' = true := by
  unfold ofCell at h
  split at h <;> first
    | (injection h with h; subst h; exact ⟨.bool _, rfl⟩)
    | (injection h with h; subst h; exact ⟨.int _ _, rfl⟩)
    | (injection h with h; subst h; exact ⟨.str _ _ rfl, rfl⟩)
    | (injection h with h; subst h; exact ⟨.flt _ _, rfl⟩)
    | (injection h with h; subst h; exact ⟨.nilptr, rfl⟩)
    | (injection h with h; subst h; exact ⟨.nil _ _, rfl⟩)
    | (injection h with h; subst h; exact ⟨.nilI, rfl⟩)
    | (injection h with h; subst h; exact ⟨.nilfn, rfl⟩)
    | cases h

theorem ofCells_CR {w : World} {Fr : FT} : ∀ {vs : List Value} {xs : List AV}, ofCells vs = some xs →
    vs.length = xs.length ∧ ∀ i (h : i < xs.length) (h' : i < vs.length), (vs[i]).oneCell' = true ∧ CR w Fr xs[i] vs[i]
  | [], xs, h => by simp [ofCells] at h; subst h; simp
  | v :: r, xs, h => by
    simp only [ofCells, Option.bind_eq_some_iff, Option.map_eq_some_iff] at h
    obtain ⟨x, hx, l, hl, rfl⟩ := h
    obtain ⟨h1, h2⟩ := ofCells_CR (w := w) (Fr := Fr) hl
    refine ⟨by simp [h1], fun i hi hi' => ?_⟩
    cases i with
    | zero => exact ⟨(ofCell_CR (w := w) (Fr := Fr) hx).2, (ofCell_CR hx).1⟩
    | succ i => exact h2 i (by simpa using hi) (by simpa using hi')

theorem ofConst_CR {w : World} {Fr : FT} {v : Value} {x : AV} (h : ofConst v = some x) : CR w Fr x v := by
  unfold ofConst at h
  split at h
  · rename_i cs
    rw [Option.map_eq_some_iff] at h
    obtain ⟨l, hl, rfl⟩ := h
    obtain ⟨h1, h2⟩ := ofCells_CR (w := w) (Fr := Fr) hl
    exact .agg l cs (by simpa using h1) (fun i hi => (h2 i (by rw [← h1]; simpa using hi) (by simpa using hi)).1) (fun i hi hi' => (h2 i hi (by simpa using hi')).2)
  · exact (ofCell_CR h).1

theorem clsDeep_left_TR {w : World} {G G' : Gh} {p q : Nat → Pos} {x : AV} {v : Value} (hx : Ext w G.Fr w G'.Fr) (hβ : G'.β = G.β) (h : TR w G p x v) : TR w G' q (hdV x) v := by
  have one : ∀ {p q : Pos} {x : AV} {v : Value}, TC w G p x v → TC w G' q (x.cls .left) v := by
    intro p q x v h
    by_cases hown : x.isOwn = true
    · cases x with
      | slice c e sz xs => cases c with
        | own f => obtain ⟨b, _, hO⟩ := h; exact TC_of_CR (hO.hdr e)
        | _ => simp [AV.isOwn] at hown
      | _ => simp [AV.isOwn] at hown
    · have hc := (CR_of_TC h (by simpa using hown)).ext hx
      have : x.cls .left = x := by
        cases x with
        | slice c e sz xs => cases c with
          | own f => simp [AV.isOwn] at hown
          | _ => rfl
        | _ => rfl
      rw [this]; exact TC_of_CR hc
  cases x with
  | tup xs =>
    obtain ⟨vs, rfl, hl, hr⟩ := h
    refine ⟨vs, rfl, by simp [hl], fun j h h' => ?_⟩
    simp only [List.getElem_map]
    exact one (hr j (by simpa using h) h')
  | ptr k off => cases k with
    | loc s => obtain ⟨b', hb', rfl⟩ := h; exact ⟨b', by rw [hβ]; exact hb', rfl⟩
    | obj i => exact TR_of_TC (one (p := p 0) (TC_of_TR h rfl)) rfl
  | skipped => exact h
  | undef => trivial
  | slice c e sz xs => exact TR_of_TC (one (p := p 0) (TC_of_TR h rfl)) rfl
  | _ => exact TR_of_TC (one (p := p 0) (TC_of_TR h rfl)) rfl

variable {w0 : World} {F0 : FT} {A : Nat → Prop} {n : Nat} {st : St} {a : Act} {w : World} {G : Gh}

def Gh.rename (G : Gh) (t : Nat) (p : Nat → Pos) : Gh := ⟨G.Fr, G.β, fun c => match G.ω c with | .slot u j => if u = t then p j else .slot u j | o => o⟩

theorem Gh.rename_ne (G : Gh) (t : Nat) (p : Nat → Pos) (c : Nat) (h : ∀ j, G.ω c ≠ .slot t j) : (G.rename t p).ω c = G.ω c := by
  simp only [Gh.rename]
  split
  · rename_i u j hu
    rw [if_neg (fun e => h j (by rw [hu, e]))]
    exact hu.symm
  · rfl
theorem Gh.rename_eq (G : Gh) (t : Nat) (p : Nat → Pos) (c j : Nat) (h : G.ω c = .slot t j) : (G.rename t p).ω c = p j := by
  simp [Gh.rename, h]

theorem TC.rename {t : Nat} {p : Nat → Pos} {q : Pos} {x : AV} {v : Value} (hq : ∀ j, q ≠ .slot t j) (h : TC w G q x v) : TC w (G.rename t p) q x v := by
  by_cases hown : x.isOwn = true
  · cases x with
    | slice c e sz xs => cases c with
      | own f => obtain ⟨b, hb, hO⟩ := h; exact ⟨b, by rw [Gh.rename_ne _ _ _ _ (fun j => by rw [hb]; exact hq j)]; exact hb, hO⟩
      | _ => simp [AV.isOwn] at hown
    | _ => simp [AV.isOwn] at hown
  · exact TC_of_CR (show CR w G.Fr x v from CR_of_TC h (by simpa using hown))

theorem TC.renamed {t j : Nat} {p : Nat → Pos} {x : AV} {v : Value} (h : TC w G (.slot t j) x v) : TC w (G.rename t p) (p j) x v := by
  by_cases hown : x.isOwn = true
  · cases x with
    | slice c e sz xs => cases c with
      | own f => obtain ⟨b, hb, hO⟩ := h; exact ⟨b, Gh.rename_eq _ _ _ _ _ hb, hO⟩
      | _ => simp [AV.isOwn] at hown
    | _ => simp [AV.isOwn] at hown
  · exact TC_of_CR (show CR w G.Fr x v from CR_of_TC h (by simpa using hown))

theorem TR.renamed {t : Nat} {p : Nat → Pos} {x : AV} {v : Value} (h : TR w G (.slot t) x v) : TR w (G.rename t p) p x v := by
  cases x with
  | tup xs =>
    obtain ⟨vs, rfl, hl, hr⟩ := h
    exact ⟨vs, rfl, hl, fun j h h' => (hr j h h').renamed⟩
  | ptr k off => cases k with
    | loc s => exact h
    | obj i => exact TR_of_TC (TC.renamed (TC_of_TR h rfl)) rfl
  | skipped => exact h
  | undef => trivial
  | slice c e sz xs => exact TR_of_TC (TC.renamed (TC_of_TR h rfl)) rfl
  | _ => exact TR_of_TC (TC.renamed (TC_of_TR h rfl)) rfl

theorem TR.rename {t u : Nat} {p : Nat → Pos} {x : AV} {v : Value} (hu : u ≠ t) (h : TR w G (.slot u) x v) : TR w (G.rename t p) (.slot u) x v := by
  have hq : ∀ i j, (Pos.slot u i) ≠ .slot t j := fun i j e => by injection e with e1 _; exact hu e1
  cases x with
  | tup xs =>
    obtain ⟨vs, rfl, hl, hr⟩ := h
    exact ⟨vs, rfl, hl, fun j h h' => (hr j h h').rename (hq _)⟩
  | ptr k off => cases k with
    | loc s => exact h
    | obj i => exact TR_of_TC (TC.rename (hq _) (TC_of_TR h rfl)) rfl
  | skipped => exact h
  | undef => trivial
  | slice c e sz xs => exact TR_of_TC (TC.rename (hq _) (TC_of_TR h rfl)) rfl
  | _ => exact TR_of_TC (TC.rename (hq _) (TC_of_TR h rfl)) rfl

theorem Gh.rename_box {t : Nat} {p : Nat → Pos} {s : K} {ob : Obj} (h : BoxR w G s ob) : BoxR w (G.rename t p) s ob :=
  h.map (Ext.refl _ _) (fun _ h => by cases s <;> exact h) (fun b hb _ => ⟨rfl, fun h => h, by rw [Gh.rename_ne _ _ _ _ (fun j => by rw [hb]; simp)]; exact hb⟩) (fun c x v h => h.rename (by simp))
theorem Gh.rename_heap {t : Nat} {p : Nat → Pos} {h : H} (hh : HR w G h) : HR w (G.rename t p) h :=
  ⟨fun i ob hi => Gh.rename_box (hh.box i ob hi), hh.ids, hh.glob⟩

theorem SR.slotTake (h : SR w0 F0 A n st a w G) (t : Nat) (p : Nat → Pos) :
    SR w0 F0 A n (st.set t (lfV (st.s t))) a w (G.rename t p) ∧ TR w (G.rename t p) p (st.s t) (a.tmps.getD t undef) := by
  refine ⟨⟨h.size, h.defers, fun u => ?_, fun s cs hs => Gh.rename_box (h.boxes s cs hs), Gh.rename_heap h.heap, h.kept, h.ext, fun b hb => ?_, h.same, h.fresh, h.nob⟩, (h.slots t).renamed⟩
  · by_cases hu : u = t
    · subst hu; simp only [St.set]; rw [upd_same]
      exact clsDeep_left_TR (G := G) (G' := G.rename u p) (Ext.refl w G.Fr) rfl (h.slots u)
    · simp only [St.set]; rw [upd_ne _ _ _ _ hu]; exact (h.slots u).rename hu
  · by_cases hj : ∃ j, G.ω b = .slot t j
    · obtain ⟨j, hj⟩ := hj
      exact h.mine b (by rw [hj]; simp)
    · exact h.mine b (by rw [← Gh.rename_ne G t p b (fun j e => hj ⟨j, e⟩)]; exact hb)

theorem frozen_of_not_own {x : AV} (h : x.isOwn = false) : gvV x = x := by
  cases x with
  | slice c e sz xs => cases c with
    | own f => simp [AV.isOwn] at h
    | _ => rfl
  | _ => rfl

theorem SR.slotGive (h : SR w0 F0 A n st a w G) (t : Nat) :
    ∃ G', SR w0 F0 A n (st.set t (gvV (st.s t))) a w G' ∧ G'.β = G.β ∧ Ext w G.Fr w G'.Fr ∧
      (∀ b, (∀ j, G.ω b ≠ .slot t j) → G'.ω b = G.ω b ∧ G'.Fr b = G.Fr b) ∧ TR w G' (.slot t) (gvV (st.s t)) (a.tmps.getD t undef) := by
  by_cases hown : (st.s t).isOwn = true
  · have hs := h.slots t
    cases hx : st.s t with
    | slice c e sz xs =>
      cases c with
      | own f =>
        rw [hx] at hs
        obtain ⟨b, hb, hO⟩ := hs
        have hle : G.Fr b ≤ xs.length := by obtain ⟨_, _, _, _, _, _, _, h1, _⟩ := hO; exact h1
        have hm : G.Fr b ≤ (G.promise b xs.length .free).Fr b := by rw [Gh.promise_same]; exact hle
        have hE : Ext w G.Fr w (G.promise b xs.length .free).Fr := (G.promise_off b xs.length .free).ext hm
        have hT : TR w (G.promise b xs.length .free) (.slot t) (gvV (AV.slice (.own f) e sz xs)) (a.tmps.getD t undef) :=
          TR_of_CR (hO.frz hE (by rw [Gh.promise_same]; exact Nat.le_refl _) e)
        refine ⟨G.promise b xs.length .free, ?_, rfl, hE, fun c hc => ?_, hT⟩
        · have := h.turn (t := t) hb (G.promise_off b xs.length .free) hm (x := gvV (AV.slice (.own f) e sz xs)) hT
          simpa [hx] using this
        · have hne : c ≠ b := fun e => hc 0 (e ▸ hb)
          exact ⟨(G.promise_off b xs.length .free).ω c hne, (G.promise_off b xs.length .free).Fr c hne⟩
      | _ => rw [hx] at hown; simp [AV.isOwn] at hown
    | _ => rw [hx] at hown; simp [AV.isOwn] at hown
  · have he := frozen_of_not_own (by simpa using hown : (st.s t).isOwn = false)
    rw [he]
    refine ⟨G, ?_, rfl, Ext.refl _ _, fun _ _ => ⟨rfl, rfl⟩, h.slots t⟩
    have := h.put (dst := none) (v := .undef) (vv := undef) (by simp) (by simp)
    have hset : st.set t (st.s t) = st := by
      cases st; simp only [St.set]; congr 1; funext j; simp only [upd]; split <;> simp_all
    rw [hset]; exact h

/-! ### Kept from one world and ghost to the next -/
theorem TC.keeps {w w' : World} {G G' : Gh} {p : Pos} {x : AV} {v : Value} (hx : Ext w G.Fr w' G'.Fr)
    (hk : ∀ b, G.ω b = p → b < w.heap.size → w'.heap[b]? = w.heap[b]? ∧ G'.Fr b = G.Fr b ∧ G'.ω b = p) (h : TC w G p x v) : TC w' G' p x v := by
  by_cases hown : x.isOwn = true
  · cases x with
    | slice c e sz xs => cases c with
      | own f =>
        obtain ⟨b, hb, hO⟩ := h
        obtain ⟨h1, h2, h3⟩ := hk b hb hO.lt
        exact ⟨b, h3, hO.ext hx h1 h2⟩
      | _ => simp [AV.isOwn] at hown
    | _ => simp [AV.isOwn] at hown
  · exact TC_of_CR ((CR_of_TC h (by simpa using hown)).ext hx)

theorem TR.keeps {w w' : World} {G G' : Gh} {p : Nat → Pos} {x : AV} {v : Value} (hx : Ext w G.Fr w' G'.Fr) (hβ : ∀ s off, x = .ptr (.loc s) off → G'.β s = G.β s)
    (hk : ∀ j b, G.ω b = p j → b < w.heap.size → w'.heap[b]? = w.heap[b]? ∧ G'.Fr b = G.Fr b ∧ G'.ω b = p j) (h : TR w G p x v) : TR w' G' p x v := by
  cases x with
  | tup xs =>
    obtain ⟨vs, rfl, hl, hr⟩ := h
    exact ⟨vs, rfl, hl, fun j h h' => (hr j h h').keeps hx (hk _)⟩
  | ptr k off => cases k with
    | loc s => obtain ⟨b, hb, rfl⟩ := h; exact ⟨b, by rw [hβ s off rfl]; exact hb, rfl⟩
    | obj i => exact TR_of_TC (TC.keeps hx (hk 0) (TC_of_TR h rfl)) rfl
  | skipped => exact h
  | undef => trivial
  | slice c e sz xs => exact TR_of_TC (TC.keeps hx (hk 0) (TC_of_TR h rfl)) rfl
  | _ => exact TR_of_TC (TC.keeps hx (hk 0) (TC_of_TR h rfl)) rfl

theorem BoxR.keeps {w w' : World} {G G' : Gh} {s : K} {ob : Obj} (hx : Ext w G.Fr w' G'.Fr) (hβ : ∀ t, G.at s = some t → G'.at s = some t)
    (hk : ∀ p, (p = .box s ∨ ∃ c, p = .cell s c) → ∀ b, G.ω b = p → b < w.heap.size → w'.heap[b]? = w.heap[b]? ∧ G'.Fr b = G.Fr b ∧ G'.ω b = p) (h : BoxR w G s ob) : BoxR w' G' s ob :=
  h.map hx hβ (fun b hb hlt => by obtain ⟨h1, h2, h3⟩ := hk _ (.inl rfl) b hb hlt; exact ⟨h1, fun h => by rw [h2]; exact h, h3⟩) (fun c x v h => h.keeps hx (hk _ (.inr ⟨c, rfl⟩)))

theorem HR.keeps {w w' : World} {G G' : Gh} {h : H} (hx : Ext w G.Fr w' G'.Fr) (hids : ∀ i, h.n ≤ i → G'.Fr.θ i = none)
    (hk : ∀ i p, (p = .box (.obj i) ∨ ∃ c, p = .cell (.obj i) c) → ∀ b, G.ω b = p → b < w.heap.size → w'.heap[b]? = w.heap[b]? ∧ G'.Fr b = G.Fr b ∧ G'.ω b = p) (hh : HR w G h) : HR w' G' h :=
  ⟨fun i ob hi => (hh.box i ob hi).keeps hx (fun t ht => hx.ids i t ht) (hk i), hids, fun g xs hg => (hh.glob g xs hg).ext hx⟩

end Go.Proofs.YtjlioidknhdceaaDoor.Abs
