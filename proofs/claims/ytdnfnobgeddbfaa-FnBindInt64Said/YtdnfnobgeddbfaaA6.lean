/- Operands and the operations that leave the world alone. -/
import Derived.Test.YtdnfnobgeddbfaaA5
import Derived.Deep.MidRow
namespace Go.Proofs.Ytdnfnobgeddbfaa.Abs
set_option linter.all false

variable {P : Program} {w0 : World} {F0 : Nat → Nat} {A : Nat → Prop} {n : Nat} {st : St} {a : Act} {w : World} {G : Gh}

/-- What lies at a place that is no slot is kept from one ghost to the next. -/
def Carry (w : World) (G : Gh) (w' : World) (G' : Gh) : Prop :=
  ∀ (q : Pos) x v, (∀ t i, q ≠ .slot t i) → TC w G q x v → TC w' G' q x v

theorem Carry.refl (w : World) (G : Gh) : Carry w G w G := fun _ _ _ _ h => h
theorem Carry.trans {w w1 w2 : World} {G G1 G2 : Gh} (h : Carry w G w1 G1) (k : Carry w1 G1 w2 G2) : Carry w G w2 G2 := fun q x v hq hx => k q x v hq (h q x v hq hx)

theorem eval_tmp (a : Act) (t : Nat) : a.eval (.tmp t) = a.tmps.getD t undef := rfl

/-- An operand that is no slot. -/
theorem const_CR {own : Bool} {x : Operand} {v : AV} {Fr : Nat → Nat} (h : pX own x = some (.c v)) : CR w Fr v (a.eval x) := by
  cases x with
  | tmp t => simp [pX] at h; split at h <;> cases h
  | const c =>
    simp only [pX, Option.map_eq_some_iff] at h
    obtain ⟨y, hy, he⟩ := h
    injection he with he
    subst he
    exact ofConst_CR hy
  | global g => simp [pX] at h; subst h; exact .gl g
  | func f => simp [pX] at h; subst h; exact .fn f

theorem pX_t {own : Bool} {x : Operand} {t : Nat} (h : pX own x = some (.t t)) : x = .tmp t := by
  cases x with
  | tmp u => simp [pX] at h; split at h <;> first | (injection h with h; subst h; rfl) | cases h
  | const c => simp [pX] at h
  | global g => simp [pX] at h
  | func f => simp [pX] at h
theorem pX_p {own : Bool} {x : Operand} {t : Nat} (h : pX own x = some (.p t)) : x = .tmp t := by
  cases x with
  | tmp u => simp [pX] at h; split at h <;> first | (injection h with h; subst h; rfl) | cases h
  | const c => simp [pX] at h
  | global g => simp [pX] at h
  | func f => simp [pX] at h

/-- What is peeked at: some value of this reading (its place left open). -/
theorem SR.peekX (h : SR w0 F0 A n st a w G) {own : Bool} {x : Operand} {ax : AX} (hx : pX own x = some ax) :
    ∃ p, TR w G p (peek st ax) (a.eval x) := by
  cases ax with
  | t t => obtain rfl := pX_t hx; exact ⟨.slot t, clsDeep_left_TR (G' := G) (p := .slot t) (Ext.refl _ _) rfl (h.slots t)⟩
  | p t => obtain rfl := pX_p hx; exact ⟨.slot t, h.slots t⟩
  | c v => exact ⟨.slot 0, TR_of_CR (const_CR hx)⟩

theorem SR.takeX (h : SR w0 F0 A n st a w G) {own : Bool} {x : Operand} {ax : AX} (hx : pX own x = some ax) (p : Nat → Pos) :
    ∃ G', SR w0 F0 A n (take st ax).2 a w G' ∧ TR w G' p (take st ax).1 (a.eval x) ∧ Carry w G w G' ∧ G'.β = G.β ∧ Ext w G.Fr w G'.Fr := by
  cases ax with
  | t t =>
    obtain rfl := pX_t hx
    obtain ⟨h1, h2⟩ := h.slotTake t p
    exact ⟨_, h1, h2, fun q x v hq hv => TC.rename (fun j => hq t j) hv, rfl, Ext.refl _ _⟩
  | p t => obtain rfl := pX_p hx; exact ⟨G, h, clsDeep_left_TR (G' := G) (p := .slot t) (Ext.refl _ _) rfl (h.slots t), Carry.refl _ _, rfl, Ext.refl _ _⟩
  | c v => exact ⟨G, h, TR_of_CR (const_CR hx), Carry.refl _ _, rfl, Ext.refl _ _⟩

theorem gvV_several {x : AV} : (gvV x).several = x.several := by cases x <;> rfl

theorem gvV_TR {G : Gh} {p q : Nat → Pos} {x : AV} {v : Value} (hs : x.several = false) (h : TR w G p (gvV x) v) : TR w G q (gvV x) v := by
  cases x with
  | tup xs => simp [AV.several] at hs
  | slice c e sz xs =>
    refine TR_of_CR ?_
    have := TC_of_TR h rfl
    refine CR_of_TC this ?_
    cases c <;> rfl
  | ptr s off => exact h
  | skipped => exact h
  | undef => trivial
  | _ => exact TR_of_CR (CR_of_TC (TC_of_TR h rfl) rfl)

theorem hdV_several {x : AV} : (hdV x).several = x.several := by cases x <;> rfl

theorem SR.giveX (h : SR w0 F0 A n st a w G) {own : Bool} {x : Operand} {ax : AX} (hx : pX own x = some ax) :
    ∃ G', SR w0 F0 A n (give st ax).2 a w G' ∧ Carry w G w G' ∧ G'.β = G.β ∧ Ext w G.Fr w G'.Fr ∧
      ((give st ax).1.several = false → ∀ p, TR w G' p (give st ax).1 (a.eval x)) := by
  cases ax with
  | t t =>
    obtain rfl := pX_t hx
    obtain ⟨G', h1, h2, h3, h4, h5⟩ := h.slotGive t
    refine ⟨G', h1, fun q x v hq hv => ?_, h2, h3, fun hs p => gvV_TR (by rw [← gvV_several]; exact hs) h5⟩
    by_cases hown : x.isOwn = true
    · cases x with
      | slice c e sz xs => cases c with
        | own f =>
          obtain ⟨b, hb, hO⟩ := hv
          have := h4 b (fun j => by rw [hb]; exact hq t j)
          exact ⟨b, by rw [this.1]; exact hb, hO.ext h3 rfl this.2⟩
        | _ => simp [AV.isOwn] at hown
      | _ => simp [AV.isOwn] at hown
    · exact TC_of_CR ((CR_of_TC hv (by simpa using hown)).ext h3)
  | p t =>
    obtain rfl := pX_p hx
    exact ⟨G, h, Carry.refl _ _, rfl, Ext.refl _ _, fun _ p => clsDeep_left_TR (G' := G) (p := .slot t) (Ext.refl _ _) rfl (h.slots t)⟩
  | c v => exact ⟨G, h, Carry.refl _ _, rfl, Ext.refl _ _, fun _ p => TR_of_CR (const_CR hx)⟩

theorem SR.copyX (h : SR w0 F0 A n st a w G) {own : Bool} {x : Operand} {ax : AX} (hx : pX own x = some ax) (m : Mode) (p : Nat → Pos) :
    ∃ G', SR w0 F0 A n (copy m st ax).2 a w G' ∧ TR w G' p (copy m st ax).1 (a.eval x) ∧ Carry w G w G' ∧ G'.β = G.β ∧ Ext w G.Fr w G'.Fr := by
  cases ax with
  | t t =>
    obtain rfl := pX_t hx
    have hs := h.slots t
    cases m with
    | take =>
      obtain ⟨h1, h2⟩ := h.slotTake t p
      refine ⟨G.rename t p, ?_, ?_, fun q x v hq hv => TC.rename (fun j => hq t j) hv, rfl, Ext.refl _ _⟩
      · have : cpS .take (st.s t) = lfV (st.s t) := by cases st.s t <;> rfl
        show SR w0 F0 A n (st.set t (cpS .take (st.s t))) a w _
        rw [this]; exact h1
      · have : cpV .take (st.s t) = st.s t := by cases st.s t <;> rfl
        show TR w _ p (cpV .take (st.s t)) _
        rw [this]; exact h2
    | look =>
      by_cases hown : (st.s t).isOwn = true
      · cases hc : st.s t with
        | slice c e sz xs => cases c with
          | own f =>
            rw [hc] at hs
            obtain ⟨b, hb, hO⟩ := hs
            have hle : G.Fr b ≤ xs.length := by obtain ⟨_, _, _, _, _, _, _, h1, _⟩ := hO; exact h1
            have hm : G.Fr b ≤ (G.promise b xs.length (.slot t 0)).Fr b := by simp only [Gh.promise, upd_same]; exact hle
            have hE : Ext w G.Fr w (G.promise b xs.length (.slot t 0)).Fr :=
              ⟨fun c => by by_cases hc : c = b; { subst hc; exact hm }; { rw [(G.promise_off b xs.length (.slot t 0)).Fr c hc]; exact Nat.le_refl _ }, fun _ _ _ _ h => h⟩
            have hT : TR w (G.promise b xs.length (.slot t 0)) (.slot t) (cpS .look (AV.slice (.own f) e sz xs)) (a.tmps.getD t undef) :=
              ⟨b, by simp [Gh.promise, upd_same], hO.shared hE (by simp [Gh.promise, upd_same])⟩
            have := h.turn (t := t) hb (G.promise_off b xs.length (.slot t 0)) hm (x := cpS .look (AV.slice (.own f) e sz xs)) hT
            refine ⟨G.promise b xs.length (.slot t 0), ?_, ?_, fun q x v hq hv => TC.turn (G.promise_off b xs.length (.slot t 0)) hE (by rw [hb]; exact fun e => hq _ _ e.symm) hv, rfl, hE⟩
            · show SR w0 F0 A n (st.set t (cpS .look (st.s t))) a w _
              rw [hc]; exact this
            · show TR w _ p (cpV .look (st.s t)) _
              rw [hc]; exact TR_of_CR (hO.frz hE (by simp [Gh.promise, upd_same]) e)
          | _ => rw [hc] at hown; simp [AV.isOwn] at hown
        | _ => rw [hc] at hown; simp [AV.isOwn] at hown
      · cases hc : st.s t with
        | tup xs =>
          obtain ⟨h1, h2⟩ := h.slotTake t p
          refine ⟨G.rename t p, ?_, ?_, fun q x v hq hv => TC.rename (fun j => hq t j) hv, rfl, Ext.refl _ _⟩
          · show SR w0 F0 A n (st.set t (cpS .look (st.s t))) a w _
            rw [hc]; rw [hc] at h1; exact h1
          · show TR w _ p (cpV .look (st.s t)) _
            rw [hc]; rw [hc] at h2; exact h2
        | slice c e sz xs =>
          have e1 : cpS .look (st.s t) = st.s t := by rw [hc]; cases c with | own f => rw [hc] at hown; simp [AV.isOwn] at hown | _ => rfl
          have e2 : cpV .look (st.s t) = st.s t := by rw [hc]; cases c with | own f => rw [hc] at hown; simp [AV.isOwn] at hown | _ => rfl
          have hset : st.set t (st.s t) = st := by cases st; simp only [St.set]; congr 1; funext j; simp only [upd]; split <;> simp_all
          refine ⟨G, ?_, ?_, Carry.refl _ _, rfl, Ext.refl _ _⟩
          · show SR w0 F0 A n (st.set t (cpS .look (st.s t))) a w _
            rw [e1, hset]; exact h
          · show TR w _ p (cpV .look (st.s t)) _
            rw [e2, hc]; rw [hc] at hs hown; exact TR_of_CR (CR_of_TC (TC_of_TR hs rfl) (by simpa using hown))
        | ptr s off =>
          have hset : st.set t (st.s t) = st := by cases st; simp only [St.set]; congr 1; funext j; simp only [upd]; split <;> simp_all
          refine ⟨G, ?_, ?_, Carry.refl _ _, rfl, Ext.refl _ _⟩
          · show SR w0 F0 A n (st.set t (cpS .look (st.s t))) a w _
            rw [show cpS .look (st.s t) = st.s t by rw [hc]; rfl, hset]; exact h
          · show TR w _ p (cpV .look (st.s t)) _
            rw [show cpV .look (st.s t) = st.s t by rw [hc]; rfl, hc]; rw [hc] at hs; exact hs
        | skipped =>
          have hset : st.set t (st.s t) = st := by cases st; simp only [St.set]; congr 1; funext j; simp only [upd]; split <;> simp_all
          refine ⟨G, ?_, ?_, Carry.refl _ _, rfl, Ext.refl _ _⟩
          · show SR w0 F0 A n (st.set t (cpS .look (st.s t))) a w _
            rw [show cpS .look (st.s t) = st.s t by rw [hc]; rfl, hset]; exact h
          · show TR w _ p (cpV .look (st.s t)) _
            rw [show cpV .look (st.s t) = st.s t by rw [hc]; rfl, hc]; rw [hc] at hs; exact hs
        | _ =>
          have hset : st.set t (st.s t) = st := by cases st; simp only [St.set]; congr 1; funext j; simp only [upd]; split <;> simp_all
          refine ⟨G, ?_, ?_, Carry.refl _ _, rfl, Ext.refl _ _⟩
          · show SR w0 F0 A n (st.set t (cpS .look (st.s t))) a w _
            rw [show cpS .look (st.s t) = st.s t by rw [hc]; rfl, hset]; exact h
          · show TR w _ p (cpV .look (st.s t)) _
            rw [show cpV .look (st.s t) = st.s t by rw [hc]; rfl, hc]; rw [hc] at hs
            first | trivial | exact TR_of_CR (CR_of_TC (TC_of_TR hs rfl) rfl)
    | head =>
      cases hc : st.s t with
      | tup xs =>
        obtain ⟨h1, h2⟩ := h.slotTake t p
        refine ⟨G.rename t p, ?_, ?_, fun q x v hq hv => TC.rename (fun j => hq t j) hv, rfl, Ext.refl _ _⟩
        · show SR w0 F0 A n (st.set t (cpS .head (st.s t))) a w _
          rw [hc]; rw [hc] at h1; exact h1
        · show TR w _ p (cpV .head (st.s t)) _
          rw [hc]; rw [hc] at h2; exact h2
      | _ =>
        have hset : st.set t (st.s t) = st := by cases st; simp only [St.set]; congr 1; funext j; simp only [upd]; split <;> simp_all
        refine ⟨G, ?_, ?_, Carry.refl _ _, rfl, Ext.refl _ _⟩
        · show SR w0 F0 A n (st.set t (cpS .head (st.s t))) a w _
          rw [show cpS .head (st.s t) = st.s t by rw [hc]; rfl, hset]; exact h
        · show TR w _ p (cpV .head (st.s t)) _
          rw [show cpV .head (st.s t) = hdV (st.s t) by rw [hc]; rfl]
          exact clsDeep_left_TR (G' := G) (p := .slot t) (Ext.refl _ _) rfl (h.slots t)
  | p t => obtain rfl := pX_p hx; exact ⟨G, h, clsDeep_left_TR (G' := G) (p := .slot t) (Ext.refl _ _) rfl (h.slots t), Carry.refl _ _, rfl, Ext.refl _ _⟩
  | c v => exact ⟨G, h, TR_of_CR (const_CR hx), Carry.refl _ _, rfl, Ext.refl _ _⟩

end Go.Proofs.Ytdnfnobgeddbfaa.Abs
