/- Operands and the operations that leave the world alone. -/
import Derived.Test.YtjlioidknhdceaaDoorA5
import Derived.Deep.MidRow
namespace Go.Proofs.YtjlioidknhdceaaDoor.Abs
set_option linter.all false

variable {P : Program} {w0 : World} {F0 : FT} {A : Nat → Prop} {n : Nat} {st : St} {a : Act} {w : World} {G : Gh}

def Carry (w : World) (G : Gh) (w' : World) (G' : Gh) : Prop :=
  ∀ (q : Pos) x v, (∀ t i, q ≠ .slot t i) → (∀ k, q ≠ .box k) → TC w G q x v → TC w' G' q x v

theorem Carry.refl (w : World) (G : Gh) : Carry w G w G := fun _ _ _ _ _ h => h
theorem Carry.trans {w w1 w2 : World} {G G1 G2 : Gh} (h : Carry w G w1 G1) (k : Carry w1 G1 w2 G2) : Carry w G w2 G2 := fun q x v hq hb hx => k q x v hq hb (h q x v hq hb hx)

theorem eval_tmp (a : Act) (t : Nat) : a.eval (.tmp t) = a.tmps.getD t undef := rfl

theorem const_CR {own : Bool} {x : Operand} {v : AV} {Fr : FT} (h : pX own x = some (.c v)) : CR w Fr v (a.eval x) := by
  cases x with
  | tmp t => simp [pX] at h; split at h <;> cases h
  | const c =>
    simp only [pX, Option.map_eq_some_iff] at h
    obtain ⟨y, hy, he⟩ := h
    injection he with he
    subst he
    exact ofConst_CR hy
  | global g => simp [pX] at h; subst h; exact .gl g
  | func f => simp [pX] at h; subst h; exact .fn f

theorem pX_t {own : Bool} {x : Operand} {t : Nat} (h : pX own x = some (.t t)) : x = .tmp t := by
  cases x with
  | tmp u => simp [pX] at h; split at h <;> first | (injection h with h; subst h; rfl) | cases h
  | const c => simp [pX] at h
  | global g => simp [pX] at h
  | func f => simp [pX] at h
theorem pX_p {own : Bool} {x : Operand} {t : Nat} (h : pX own x = some (.p t)) : x = .tmp t := by
  cases x with
  | tmp u => simp [pX] at h; split at h <;> first | (injection h with h; subst h; rfl) | cases h
  | const c => simp [pX] at h
  | global g => simp [pX] at h
  | func f => simp [pX] at h

def OX (x : Operand) : AX → Prop
  | .t t => x = .tmp t
  | .m t => x = .tmp t
  | .u t => x = .tmp t
  | .f t => x = .tmp t
  | .p t => x = .tmp t
  | .c v => ∃ own, pX own x = some (.c v)

theorem OX.of {own : Bool} {x : Operand} {ax : AX} (hx : pX own x = some ax) : OX x ax := by
  cases ax with
  | t t => exact pX_t hx
  | m t => cases x <;> simp [pX] at hx; split at hx <;> cases hx
  | u t => cases x <;> simp [pX] at hx; split at hx <;> cases hx
  | f t => cases x <;> simp [pX] at hx; split at hx <;> cases hx
  | p t => exact pX_p hx
  | c v => exact ⟨own, hx⟩
theorem OX.ofm {m : Nat} {own : Bool} {x : Operand} {ax : AX} (hx : pXm m own x = some ax) : OX x ax := by
  unfold pXm at hx
  split at hx
  · injection hx with hx; subst hx; rfl
  · injection hx with hx; subst hx; rfl
  · injection hx with hx; subst hx; rfl
  · exact OX.of hx

theorem SR.peekO (h : SR w0 F0 A n st a w G) {x : Operand} {ax : AX} (hx : OX x ax) : ∃ p, TR w G p (peek st ax) (a.eval x) := by
  cases ax with
  | t t => obtain rfl := hx; exact ⟨.slot t, clsDeep_left_TR (G' := G) (p := .slot t) (Ext.refl _ _) rfl (h.slots t)⟩
  | m t => obtain rfl := hx; exact ⟨.slot t, clsDeep_left_TR (G' := G) (p := .slot t) (Ext.refl _ _) rfl (h.slots t)⟩
  | u t => obtain rfl := hx; exact ⟨.slot t, clsDeep_left_TR (G' := G) (p := .slot t) (Ext.refl _ _) rfl (h.slots t)⟩
  | f t => obtain rfl := hx; exact ⟨.slot t, clsDeep_left_TR (G' := G) (p := .slot t) (Ext.refl _ _) rfl (h.slots t)⟩
  | p t => obtain rfl := hx; exact ⟨.slot t, h.slots t⟩
  | c v => obtain ⟨own, hx⟩ := hx; exact ⟨.slot 0, TR_of_CR (const_CR hx)⟩
theorem SR.peekX (h : SR w0 F0 A n st a w G) {own : Bool} {x : Operand} {ax : AX} (hx : pX own x = some ax) : ∃ p, TR w G p (peek st ax) (a.eval x) := h.peekO (OX.of hx)

/-! ### Rows to the heap and back -/
theorem OwnR.cell {w : World} {F : FT} {b : Nat} {f : Bool} {e sz : Nat} {xs : List AV} {v : Value} (h : OwnR w F b f e sz xs v) :
    ∃ m cap cur, v = .slice (some ⟨b, 0, none⟩) m cap ∧ w.heap[b]? = some (.cells cur e (0, 0)) ∧ m ≤ cap ∧ cap ≤ maxLen ∧ cur.size = cap * sz ∧ xs.length = m * sz ∧ 0 < sz ∧ xs.length ≤ cur.size ∧
      ∀ c (hc : c < xs.length) (hc' : c < cur.size), (cur[c]).oneCell' = true ∧ CR w F xs[c] cur[c] := by
  obtain ⟨m, vs, ho, hob, hz, hl, hc, h1, h2⟩ := h
  rcases ho.2 with ⟨rfl, _⟩ | ⟨g, cap, cur, rfl, hbg, hg, hnc, hcm, hcs, htake⟩
  · simp [Value.ownBlock] at hob
  · obtain rfl : g = b := by simpa [Value.ownBlock] using hob
    have hlen : xs.length = m * sz := by rw [← hl]; exact ho.1
    have hle : xs.length ≤ cur.size := by rw [hlen, hcs]; exact Nat.mul_le_mul_right _ hnc
    refine ⟨m, cap, cur, rfl, hg, hnc, hcm, hcs, hlen, hz, hle, fun c hc1 hc2 => ?_⟩
    have := hc c hc1 (by omega)
    have e1 : vs[c]'(by omega) = cur[c] := by
      have : (cur.toList.take (m * sz))[c]'(by simp; omega) = cur[c] := by simp
      simp only [← htake]; exact this
    rw [← e1]; exact this

theorem ObjR.own {w : World} {G : Gh} {s : K} {t : Th} {e sz m : Nat} {cp : Option Nat} {xs : List AV} (h : ObjR w G s t (.row e sz cp xs)) {cap : Nat} (hl : xs.length = m * sz) (hc : m ≤ cap) (hN : cap * sz = t.N) {F : FT} (hx : Ext w G.Fr w F) (hF : F t.b = 0) :
    OwnR w F t.b true e sz xs (.slice (some ⟨t.b, 0, none⟩) m cap) := by
  obtain ⟨h1, h2, h3, h4, ⟨⟨cap', h5, h5'⟩, _⟩, h6, _, vs, h7, h8, h9⟩ := h
  have hcc : cap' = cap := by
    have : cap' * sz = cap * sz := by rw [hN, h5]
    exact Nat.eq_of_mul_eq_mul_right h4 this
  subst hcc
  have hle : m * sz ≤ vs.size := by rw [h8, ← hl]; exact h6
  refine ⟨m, vs.toList.take (m * sz), ⟨by simp; omega, .inr ⟨t.b, cap', vs, rfl, Nat.zero_le _, by rw [← h3]; exact h7, hc, h5', by rw [h8, h5], rfl⟩⟩, by simp [Value.ownBlock], h4, by simp; omega, fun i hi hi' => ?_, by rw [hF]; omega, fun _ => hF⟩
  have hi2 : i < vs.size := by omega
  have := h9 i hi hi2
  have e1 : (vs.toList.take (m * sz))[i] = vs[i] := by simp
  rw [e1]; exact ⟨this.1, this.2.ext hx⟩

theorem ObjR.head {w : World} {G : Gh} {s : K} {t : Th} {e sz m : Nat} {cp : Option Nat} {xs : List AV} (h : ObjR w G s t (.row e sz cp xs)) (hl : m * sz ≤ xs.length) : ObjR w G s t (.row e sz cp (xs.take (m * sz))) := by
  obtain ⟨h1, h2, h3, h4, h5, h6, _, vs, h7, h8, h9⟩ := h
  have hlen : (xs.take (m * sz)).length = m * sz := by rw [List.length_take]; omega
  exact ⟨h1, h2, h3, h4, h5, by omega, ⟨m, hlen⟩, vs, h7, h8, fun c hc hc' => by
    have := h9 c (by omega) hc'
    simpa using this⟩

theorem FT.name_ne (F : FT) (i j : Nat) (t : Th) (h : j ≠ i) : (F.name i t).θ j = F.θ j := upd_ne _ _ _ _ h
theorem FT.name_same (F : FT) (i : Nat) (t : Th) : (F.name i t).θ i = some t := upd_same _ _ _
theorem Ext.name {w : World} {F : FT} {i : Nat} (hi : F.θ i = none) (t : Th) : Ext w F w (F.name i t) :=
  ⟨fun _ => Nat.le_refl _, fun _ _ _ _ h => h, fun j u hj => by
    by_cases hji : j = i
    · subst hji; rw [hi] at hj; cases hj
    · rw [FT.name_ne _ _ _ _ hji]; exact hj, fun _ cs _ _ h => ⟨cs, h⟩⟩

theorem hdV_TR_any {p q : Nat → Pos} {x : AV} {v : Value} (h : TR w G p x v) : TR w G q (hdV x) v := clsDeep_left_TR (G' := G) (Ext.refl _ _) rfl h

theorem SR.pin (h : SR w0 F0 A n st a w G) (t : Nat) :
    ∃ G', SR w0 F0 A n (pin st t).2 a w G' ∧ Carry w G w G' ∧ G'.β = G.β ∧ Ext w G.Fr w G'.Fr ∧ (∀ p, TR w G' p (Abs.pin st t).1 (a.tmps.getD t undef)) := by
  unfold Abs.pin
  split
  · rename_i e sz xs hx
    have hs := h.slots t
    rw [hx] at hs
    obtain ⟨b, hb, hO⟩ := hs
    obtain ⟨m, cap, cur, hv, hg, hmc, hcm, hcs, hl, hz, hle, hcell⟩ := hO.cell
    have hF0 : G.Fr b = 0 := by obtain ⟨_, _, _, _, _, _, _, _, h2⟩ := hO; exact h2 rfl
    have hm : xs.length / sz = m := by rw [hl, Nat.mul_div_cancel _ hz]
    have hn0 := h.heap.ids st.h.n (Nat.le_refl _)
    let th : Th := ⟨b, cur.size, e, true⟩
    let G' : Gh := ⟨G.Fr.name st.h.n th, G.β, upd G.ω b (.box (.obj st.h.n))⟩
    have hE : Ext w G.Fr w G'.Fr := Ext.name hn0 th
    have hk : ∀ p, p ≠ .slot t 0 → ∀ b', G.ω b' = p → b' < w.heap.size → w.heap[b']? = w.heap[b']? ∧ G'.Fr b' = G.Fr b' ∧ G'.ω b' = p := by
      intro p hp b' hb' _
      have hne : b' ≠ b := fun e => hp (by rw [← hb', e, hb])
      exact ⟨rfl, rfl, by show upd _ _ _ _ = _; rw [upd_ne _ _ _ _ hne]; exact hb'⟩
    have hT : ∀ p, TR w G' p (.hsl st.h.n 0 e sz (xs.length / sz)) (a.tmps.getD t undef) := fun p => by
      rw [hv, hm]
      exact TR_of_CR (.hsl _ _ _ _ _ _ _ th (FT.name_same _ _ _) hz hmc (fun _ => ⟨rfl, fun _ => by simp [th, hcs]⟩))
    refine ⟨G', ⟨h.size, h.defers, fun u => ?_, fun s ob hs => ?_, ⟨fun i ob hi => ?_, fun i hi => ?_, fun g xs hg => ?_⟩, h.kept, h.ext.trans hE, fun b' hb' => ?_, h.same, h.fresh, h.nob⟩, fun q x v hq _ hv => hv.keeps hE (hk q (hq _ _)), rfl, hE, hT⟩
    · by_cases hu : u = t
      · subst hu; simp only; rw [upd_same]; exact hT _
      · simp only; rw [upd_ne _ _ _ _ hu]
        exact (h.slots u).keeps hE (fun _ _ _ => rfl) (fun j => hk _ (by intro e; injection e with e _; exact hu e))
    · exact (h.boxes s ob hs).keeps hE (fun _ h => h) (fun p hp => hk p (by rcases hp with rfl | ⟨_, rfl⟩ <;> simp))
    · rw [H.get_push] at hi
      split at hi
      · rename_i hin
        subst hin
        injection hi with hi; subst hi
        refine ⟨th, FT.name_same _ _ _, upd_same _ _ _, (Array.getElem?_eq_some_iff.1 hg).1, hF0, rfl, rfl, hz, ⟨⟨cap, hcs, hcm⟩, fun _ h => by cases h⟩, hle, ⟨m, hl⟩, cur, hg, rfl, fun c hc1 hc2 => ⟨(hcell c hc1 hc2).1, (hcell c hc1 hc2).2.ext hE⟩⟩
      · exact (h.heap.box i ob hi).keeps hE (fun t ht => hE.ids _ _ ht) (fun p hp => hk p (by rcases hp with rfl | ⟨_, rfl⟩ <;> simp))
    · rw [H.n_push] at hi
      show (G.Fr.name st.h.n th).θ i = none
      rw [FT.name_ne _ _ _ _ (by omega)]; exact h.heap.ids i (by omega)
    · exact (h.heap.glob g xs hg).ext hE
    · by_cases hbb : b' = b
      · subst hbb; exact h.mine b' (by rw [hb]; simp)
      · exact h.mine b' (by have : G'.ω b' = G.ω b' := upd_ne _ _ _ _ hbb; rw [← this]; exact hb')
  · exact ⟨G, h, Carry.refl _ _, rfl, Ext.refl _ _, fun p => hdV_TR_any (h.slots t)⟩

theorem SR.unpin (h : SR w0 F0 A n st a w G) {t i k e sz m : Nat} (hs : st.s t = .hsl i k e sz m) (p : Nat → Pos) (hp : p 0 ≠ .free) :
    ∃ G', SR w0 F0 A n (unpin st t i k e sz m).2 a w G' ∧ TR w G' p (Abs.unpin st t i k e sz m).1 (a.tmps.getD t undef) ∧ Carry w G w G' ∧ G'.β = G.β ∧ Ext w G.Fr w G'.Fr := by
  have hsl := h.slots t
  rw [hs] at hsl
  have asis : ∃ G', SR w0 F0 A n st a w G' ∧ TR w G' p (.hsl i k e sz m) (a.tmps.getD t undef) ∧ Carry w G w G' ∧ G'.β = G.β ∧ Ext w G.Fr w G'.Fr :=
    ⟨G, h, TR_of_CR (CR_of_TC (TC_of_TR hsl rfl) rfl), Carry.refl _ _, rfl, Ext.refl _ _⟩
  unfold Abs.unpin
  split
  · rename_i e' sz' cp xs hget
    have core : ∀ ys : List AV, ys.length = m * sz → k = 0 → (∀ th, ObjR w G (.obj i) th (.row e' sz' cp xs) → ObjR w G (.obj i) th (.row e sz cp ys)) →
        ∃ G', SR w0 F0 A n ⟨upd st.s t (.slice .hdr e sz ys), st.b, st.h.del i⟩ a w G' ∧ TR w G' p (.slice (.own true) e sz ys) (a.tmps.getD t undef) ∧ Carry w G w G' ∧ G'.β = G.β ∧ Ext w G.Fr w G'.Fr := by
      intro ys hl hk0 hrow
      subst hk0
      obtain ⟨th, k1, k2, k3, k40⟩ := h.heap.box i _ hget
      have k4 := hrow th k40
      have hC := CR_of_TC (TC_of_TR hsl rfl) rfl
      generalize hvv : a.tmps.getD t undef = v at hC
      cases hC with
      | hsl _ _ _ _ _ cap ad th' hth hz hmc ha =>
      have k1' : G.Fr.θ i = some th := k1
      rw [k1'] at hth; injection hth with hth; subst hth
      obtain ⟨rfl, hN⟩ := ha (.inl rfl)
      have hr : th.r = true := k4.2.1
      have hN := hN hr
      have hF0 : G.Fr th.b = 0 := k4.1
      let G' : Gh := ⟨G.Fr, G.β, upd G.ω th.b (p 0)⟩
      have hk : ∀ q, q ≠ .box (.obj i) → ∀ b', G.ω b' = q → b' < w.heap.size → w.heap[b']? = w.heap[b']? ∧ G'.Fr b' = G.Fr b' ∧ G'.ω b' = q := by
        intro q hq b' hb' _
        have hne : b' ≠ th.b := fun e => hq (by rw [← hb', e, k2])
        exact ⟨rfl, rfl, by show upd _ _ _ _ = _; rw [upd_ne _ _ _ _ hne]; exact hb'⟩
      have hE : Ext w G.Fr w G'.Fr := Ext.refl _ _
      have hO := k4.own (cap := cap) hl hmc (by omega) hE hF0
      refine ⟨G', ⟨h.size, h.defers, fun u => ?_, fun s ob hs' => ?_, ⟨fun j ob hj => ?_, fun j hj => ?_, fun g xs hg => h.heap.glob g xs (by rw [← hg]; exact congrFun (H.Γ_del _ _).symm g)⟩, h.kept, h.ext, fun b' hb' => ?_, h.same, h.fresh, h.nob⟩, TR_of_TC ⟨th.b, upd_same _ _ _, hO⟩ rfl, fun q x v _ hq hv => hv.keeps hE (hk q (hq _)), rfl, hE⟩
      · by_cases hu : u = t
        · subst hu; simp only; rw [upd_same, hvv]; exact TR_of_CR (.hdr _ _ _ _ _ _ hz hl hmc)
        · simp only; rw [upd_ne _ _ _ _ hu]
          exact (h.slots u).keeps hE (fun _ _ _ => rfl) (fun j => hk _ (by simp))
      · exact (h.boxes s ob hs').keeps hE (fun _ h => h) (fun p hp => hk p (by rcases hp with rfl | ⟨_, rfl⟩ <;> simp))
      · rw [H.get_del] at hj
        split at hj
        · cases hj
        · rename_i hji
          exact (h.heap.box j ob hj).keeps hE (fun t ht => ht) (fun p hp => hk p (by rcases hp with rfl | ⟨_, rfl⟩ <;> simp [hji]))
      · rw [H.n_del] at hj; exact h.heap.ids j hj
      · by_cases hbb : b' = th.b
        · subst hbb; exact h.mine _ (by rw [k2]; simp)
        · exact h.mine b' (by have : G'.ω b' = G.ω b' := upd_ne _ _ _ _ hbb; rw [← this]; exact hb')
    split
    · rename_i hc
      obtain ⟨rfl, rfl, rfl, hl⟩ := hc
      exact core xs hl rfl (fun _ h => h)
    · split
      · rename_i hc
        obtain ⟨rfl, rfl, rfl, hl⟩ := hc
        exact core _ (by rw [List.length_take]; omega) rfl (fun _ h => h.head hl)
      · exact asis
  · exact asis

theorem ObjR.promise {w : World} {G : Gh} {s : K} {t : Th} {e sz : Nat} {cp : Option Nat} {xs : List AV} (h : ObjR w G s t (.row e sz cp xs)) {F : FT} (hx : Ext w G.Fr w F) (hF : xs.length ≤ F t.b) :
    CR w F (.eptr xs) (.pointer (some ⟨t.b, 0, none⟩)) := by
  obtain ⟨h1, h2, h3, h4, h5, h6, _, vs, h7, h8, h9⟩ := h
  refine .eptr ⟨t.b, 0, none⟩ xs (fun i => vs.getD i undef) rfl (fun i hi => by simp only; omega) (fun i hi => ?_) (fun i hi => ?_) (fun i hi => ?_)
  · have : i < vs.size := by omega
    simp [World.cell?, h7, this]
  · have : i < vs.size := by omega
    simpa [this] using (h9 i hi this).1
  · have : i < vs.size := by omega
    simpa [this] using (h9 i hi this).2.ext hx

theorem CR_part {w : World} {F : FT} {b : Nat} {xs : List AV} (h : CR w F (.eptr xs) (.pointer (some ⟨b, 0, none⟩))) {k m sz e cap : Nat} {ad : Addr} (hz : 0 < sz) (hle : k + m * sz ≤ xs.length) (hc : m ≤ cap)
    (ha : k = 0 ∨ 0 < m → ad = ⟨b, k, none⟩) : CR w F (.slice .frz e sz ((xs.drop k).take (m * sz))) (.slice (some ad) m cap) := by
  have hlen : ((xs.drop k).take (m * sz)).length = m * sz := by rw [List.length_take, List.length_drop]; omega
  generalize hv : Value.pointer (some ⟨b, 0, none⟩) = v at h
  cases h with
  | eptr a _ vs hs hp hv' ho hr =>
  injection hv with hv; injection hv with hv; subst hv
  by_cases hm : m = 0
  · subst hm
    simp only [Nat.zero_mul, List.take_zero]
    exact .frz e sz 0 cap ad [] (fun _ => undef) (fun h => absurd h (by simp)) hz (by simp) hc (fun i hi => absurd hi (by simp)) (fun i hi => absurd hi (by simp)) (fun i hi => absurd hi (by simp)) (fun i hi => absurd hi (by simp))
  · obtain rfl := ha (.inr (by omega))
    refine .frz e sz m cap _ _ (fun i => vs (k + i)) (fun _ => rfl) hz hlen hc (fun i hi => ?_) (fun i hi => ?_) (fun i hi => ?_) (fun i hi => ?_)
    · rw [hlen] at hi; have := hp (k + i) (by omega); simp only at this ⊢; omega
    · rw [hlen] at hi; have := hv' (k + i) (by omega); simp only [Nat.zero_add] at this ⊢; exact this
    · rw [hlen] at hi; exact ho _ (by omega)
    · have hi2 := hi; rw [hlen] at hi2
      have := hr (k + i) (by omega)
      simpa using this

theorem SR.frz (h : SR w0 F0 A n st a w G) {t i k e sz m : Nat} (hs : st.s t = .hsl i k e sz m) :
    ∃ G', SR w0 F0 A n (frz st t i k e sz m).2 a w G' ∧ Carry w G w G' ∧ G'.β = G.β ∧ Ext w G.Fr w G'.Fr ∧ ∀ p, TR w G' p (Abs.frz st t i k e sz m).1 (a.tmps.getD t undef) := by
  have hsl := h.slots t
  rw [hs] at hsl
  have asis : ∃ G', SR w0 F0 A n st a w G' ∧ Carry w G w G' ∧ G'.β = G.β ∧ Ext w G.Fr w G'.Fr ∧ ∀ p, TR w G' p (.hsl i k e sz m) (a.tmps.getD t undef) :=
    ⟨G, h, Carry.refl _ _, rfl, Ext.refl _ _, fun p => TR_of_CR (CR_of_TC (TC_of_TR hsl rfl) rfl)⟩
  have hC := CR_of_TC (TC_of_TR hsl rfl) rfl
  generalize hvv : a.tmps.getD t undef = v at hC asis
  cases hC with
  | hsl _ _ _ _ _ cap ad th' hth hz hmc ha =>
  unfold Abs.frz
  split
  · rename_i xs hget
    split
    · rename_i hle
      obtain ⟨th, k1, k2, k3, k4⟩ := h.heap.box i _ hget
      have k1' : G.Fr.θ i = some th := k1
      rw [k1'] at hth; injection hth with hth; subst hth
      have hF0 : G.Fr th.b = 0 := k4.1
      let G' : Gh := ⟨G.Fr.put th.b xs.length, G.β, G.ω⟩
      have hk : ∀ q, q ≠ .box (.obj i) → ∀ b', G.ω b' = q → b' < w.heap.size → w.heap[b']? = w.heap[b']? ∧ G'.Fr b' = G.Fr b' ∧ G'.ω b' = q := by
        intro q hq b' hb' _
        have hne : b' ≠ th.b := fun e => hq (by rw [← hb', e, k2])
        exact ⟨rfl, FT.put_ne _ _ _ _ hne, hb'⟩
      have hE : Ext w G.Fr w G'.Fr := ⟨fun b' => by
        by_cases hbb : b' = th.b
        · subst hbb; rw [hF0]; exact Nat.zero_le _
        · rw [show G'.Fr b' = G.Fr b' from FT.put_ne _ _ _ _ hbb]; exact Nat.le_refl _, fun _ _ _ _ h => h, fun _ _ h => h, fun _ cs _ _ h => ⟨cs, h⟩⟩
      have hP := k4.promise hE (by rw [show G'.Fr th.b = xs.length from FT.put_same _ _ _]; exact Nat.le_refl _)
      have hT : ∀ p, TR w G' p (.slice .frz e sz ((xs.drop k).take (m * sz))) (.slice (some ad) m cap) := fun p => TR_of_CR (CR_part hP hz hle hmc (fun h => (ha h).1))
      have hmine := h.mine th.b (by rw [k2]; simp)
      refine ⟨G', ⟨h.size, h.defers, fun u => ?_, fun s ob hs' => ?_, ⟨fun j ob hj => ?_, fun j hj => ?_, fun g xs hg => (h.heap.glob g xs (by rw [← hg]; exact congrFun (H.Γ_set _ _ _).symm g)).ext hE⟩, h.kept, h.ext.trans hE, h.mine, fun b' hb' hA => ?_, fun b' hb' => ?_, h.nob⟩, fun q x v _ hq hv => hv.keeps hE (hk q (hq _)), rfl, hE, hT⟩
      · by_cases hu : u = t
        · subst hu; simp only; rw [upd_same, hvv]; exact hT _
        · simp only; rw [upd_ne _ _ _ _ hu]
          exact (h.slots u).keeps hE (fun _ _ _ => rfl) (fun j => hk _ (by simp))
      · exact (h.boxes s ob hs').keeps hE (fun _ h => h) (fun p hp => hk p (by rcases hp with rfl | ⟨_, rfl⟩ <;> simp))
      · simp only at hj
        rw [H.get_set hget] at hj
        split at hj
        · rename_i hji
          subst hji
          injection hj with hj; subst hj
          exact ⟨th, k1, k2, k3, hP⟩
        · rename_i hji
          exact (h.heap.box j ob hj).keeps hE (fun t ht => ht) (fun p hp => hk p (by rcases hp with rfl | ⟨_, rfl⟩ <;> simp [hji]))
      · simp only [H.n_set] at hj; exact h.heap.ids j hj
      · have hne : b' ≠ th.b := fun e => by subst e; rcases hmine.2 with h' | h'; { exact hA h' }; { omega }
        rw [show G'.Fr b' = G.Fr b' from FT.put_ne _ _ _ _ hne]; exact h.same b' hb' hA
      · have hne : b' ≠ th.b := fun e => by subst e; omega
        rw [show G'.Fr b' = G.Fr b' from FT.put_ne _ _ _ _ hne]; exact h.fresh b' hb'
    · exact asis
  · rename_i xs hget
    split
    · rename_i hle
      obtain ⟨th, k1, k2, k3, k4⟩ := h.heap.box i _ hget
      have k1' : G.Fr.θ i = some th := k1
      rw [k1'] at hth; injection hth with hth; subst hth
      have hT : ∀ p, TR w G p (.slice .frz e sz ((xs.drop k).take (m * sz))) (.slice (some ad) m cap) := fun p => TR_of_CR (CR_part k4 hz hle hmc (fun h => (ha h).1))
      refine ⟨G, ⟨h.size, h.defers, fun u => ?_, h.boxes, h.heap, h.kept, h.ext, h.mine, h.same, h.fresh, h.nob⟩, Carry.refl _ _, rfl, Ext.refl _ _, hT⟩
      by_cases hu : u = t
      · subst hu; simp only; rw [upd_same, hvv]; exact hT _
      · simp only; rw [upd_ne _ _ _ _ hu]; exact h.slots u
    · exact asis
  · exact asis

theorem SR.takeO (h : SR w0 F0 A n st a w G) {x : Operand} {ax : AX} (hx : OX x ax) (p : Nat → Pos) (hp : p 0 ≠ .free) :
    ∃ G', SR w0 F0 A n (take st ax).2 a w G' ∧ TR w G' p (take st ax).1 (a.eval x) ∧ Carry w G w G' ∧ G'.β = G.β ∧ Ext w G.Fr w G'.Fr := by
  cases ax with
  | t t =>
    obtain rfl := hx
    obtain ⟨h1, h2⟩ := h.slotTake t p
    exact ⟨_, h1, h2, fun q x v hq _ hv => TC.rename (fun j => hq t j) hv, rfl, Ext.refl _ _⟩
  | f t =>
    obtain rfl := hx
    obtain ⟨h1, h2⟩ := h.slotTake t p
    exact ⟨_, h1, h2, fun q x v hq _ hv => TC.rename (fun j => hq t j) hv, rfl, Ext.refl _ _⟩
  | u t =>
    obtain rfl := hx
    unfold take
    simp only
    split
    · rename_i i k e sz m hs
      exact h.unpin hs p hp
    · obtain ⟨h1, h2⟩ := h.slotTake t p
      exact ⟨_, h1, h2, fun q x v hq _ hv => TC.rename (fun j => hq t j) hv, rfl, Ext.refl _ _⟩
  | m t =>
    obtain rfl := hx
    obtain ⟨G', h1, h2, h3, h4, h5⟩ := h.pin t
    exact ⟨G', h1, h5 p, h2, h3, h4⟩
  | p t => obtain rfl := hx; exact ⟨G, h, hdV_TR_any (h.slots t), Carry.refl _ _, rfl, Ext.refl _ _⟩
  | c v => obtain ⟨own, hx⟩ := hx; exact ⟨G, h, TR_of_CR (const_CR hx), Carry.refl _ _, rfl, Ext.refl _ _⟩
theorem SR.takeX (h : SR w0 F0 A n st a w G) {own : Bool} {x : Operand} {ax : AX} (hx : pX own x = some ax) (p : Nat → Pos) (hp : p 0 ≠ .free) :
    ∃ G', SR w0 F0 A n (take st ax).2 a w G' ∧ TR w G' p (take st ax).1 (a.eval x) ∧ Carry w G w G' ∧ G'.β = G.β ∧ Ext w G.Fr w G'.Fr := h.takeO (OX.of hx) p hp

theorem gvV_several {x : AV} : (gvV x).several = x.several := by cases x <;> rfl

theorem gvV_TR {G : Gh} {p q : Nat → Pos} {x : AV} {v : Value} (hs : x.several = false) (h : TR w G p (gvV x) v) : TR w G q (gvV x) v := by
  cases x with
  | tup xs => simp [AV.several] at hs
  | slice c e sz xs =>
    refine TR_of_CR ?_
    have := TC_of_TR h rfl
    refine CR_of_TC this ?_
    cases c <;> rfl
  | ptr k off => cases k with
    | loc s => exact h
    | obj i => exact TR_of_CR (CR_of_TC (TC_of_TR h rfl) rfl)
  | skipped => exact h
  | undef => trivial
  | _ => exact TR_of_CR (CR_of_TC (TC_of_TR h rfl) rfl)

theorem SR.giveO (h : SR w0 F0 A n st a w G) {x : Operand} {ax : AX} (hx : OX x ax) :
    ∃ G', SR w0 F0 A n (give st ax).2 a w G' ∧ Carry w G w G' ∧ G'.β = G.β ∧ Ext w G.Fr w G'.Fr ∧
      ((give st ax).1.several = false → ∀ p, TR w G' p (give st ax).1 (a.eval x)) := by
  have key : ∀ t, x = .tmp t → ∃ G', SR w0 F0 A n (st.set t (gvV (st.s t))) a w G' ∧ Carry w G w G' ∧ G'.β = G.β ∧ Ext w G.Fr w G'.Fr ∧
      ((gvV (st.s t)).several = false → ∀ p, TR w G' p (gvV (st.s t)) (a.eval x)) := fun t hx => by
    obtain rfl := hx
    obtain ⟨G', h1, h2, h3, h4, h5⟩ := h.slotGive t
    refine ⟨G', h1, fun q x v hq _ hv => ?_, h2, h3, fun hs p => gvV_TR (by rw [← gvV_several]; exact hs) h5⟩
    by_cases hown : x.isOwn = true
    · cases x with
      | slice c e sz xs => cases c with
        | own f =>
          obtain ⟨b, hb, hO⟩ := hv
          have := h4 b (fun j => by rw [hb]; exact hq t j)
          exact ⟨b, by rw [this.1]; exact hb, hO.ext h3 rfl this.2⟩
        | _ => simp [AV.isOwn] at hown
      | _ => simp [AV.isOwn] at hown
    · exact TC_of_CR ((CR_of_TC hv (by simpa using hown)).ext h3)
  cases ax with
  | t t => exact key t hx
  | u t => exact key t hx
  | f t =>
    unfold give
    simp only
    split
    · rename_i i k e sz m hs
      obtain rfl := hx
      obtain ⟨G', h1, h2, h3, h4, h5⟩ := h.frz hs
      exact ⟨G', h1, h2, h3, h4, fun _ p => h5 p⟩
    · exact key t hx
  | m t =>
    obtain rfl := hx
    obtain ⟨G', h1, h2, h3, h4, h5⟩ := h.pin t
    exact ⟨G', h1, h2, h3, h4, fun _ p => h5 p⟩
  | p t =>
    obtain rfl := hx
    exact ⟨G, h, Carry.refl _ _, rfl, Ext.refl _ _, fun _ p => hdV_TR_any (h.slots t)⟩
  | c v => obtain ⟨own, hx⟩ := hx; exact ⟨G, h, Carry.refl _ _, rfl, Ext.refl _ _, fun _ p => TR_of_CR (const_CR hx)⟩
theorem SR.giveX (h : SR w0 F0 A n st a w G) {own : Bool} {x : Operand} {ax : AX} (hx : pX own x = some ax) :
    ∃ G', SR w0 F0 A n (give st ax).2 a w G' ∧ Carry w G w G' ∧ G'.β = G.β ∧ Ext w G.Fr w G'.Fr ∧
      ((give st ax).1.several = false → ∀ p, TR w G' p (give st ax).1 (a.eval x)) := h.giveO (OX.of hx)

theorem SR.copyO (h : SR w0 F0 A n st a w G) {x : Operand} {ax : AX} (hx : OX x ax) (m : Mode) (p : Nat → Pos) :
    ∃ G', SR w0 F0 A n (copy m st ax).2 a w G' ∧ TR w G' p (copy m st ax).1 (a.eval x) ∧ Carry w G w G' ∧ G'.β = G.β ∧ Ext w G.Fr w G'.Fr := by
  suffices hh : ∀ ax, OX x ax → (∀ t, ax ≠ .u t ∧ ax ≠ .f t) → ∃ G', SR w0 F0 A n (copy m st ax).2 a w G' ∧ TR w G' p (copy m st ax).1 (a.eval x) ∧ Carry w G w G' ∧ G'.β = G.β ∧ Ext w G.Fr w G'.Fr by
    cases ax with
    | u t => exact hh (.t t) hx (fun _ => by simp)
    | f t => exact hh (.t t) hx (fun _ => by simp)
    | t t => exact hh (.t t) hx (fun _ => by simp)
    | m t => exact hh (.m t) hx (fun _ => by simp)
    | p t => exact hh (.p t) hx (fun _ => by simp)
    | c v => exact hh (.c v) hx (fun _ => by simp)
  clear hx ax
  intro ax hx hu
  cases ax with
  | u t => exact absurd rfl (hu t).1
  | f t => exact absurd rfl (hu t).2
  | t t =>
    obtain rfl := hx
    have hs := h.slots t
    cases m with
    | take =>
      obtain ⟨h1, h2⟩ := h.slotTake t p
      refine ⟨G.rename t p, ?_, ?_, fun q x v hq _ hv => TC.rename (fun j => hq t j) hv, rfl, Ext.refl _ _⟩
      · have : cpS .take (st.s t) = lfV (st.s t) := by cases st.s t <;> rfl
        show SR w0 F0 A n (st.set t (cpS .take (st.s t))) a w _
        rw [this]; exact h1
      · have : cpV .take (st.s t) = st.s t := by cases st.s t <;> rfl
        show TR w _ p (cpV .take (st.s t)) _
        rw [this]; exact h2
    | look =>
      by_cases hown : (st.s t).isOwn = true
      · cases hc : st.s t with
        | slice c e sz xs => cases c with
          | own f =>
            rw [hc] at hs
            obtain ⟨b, hb, hO⟩ := hs
            have hle : G.Fr b ≤ xs.length := by obtain ⟨_, _, _, _, _, _, _, h1, _⟩ := hO; exact h1
            have hm : G.Fr b ≤ (G.promise b xs.length (.slot t 0)).Fr b := by rw [Gh.promise_same]; exact hle
            have hE : Ext w G.Fr w (G.promise b xs.length (.slot t 0)).Fr := (G.promise_off b xs.length (.slot t 0)).ext hm
            have hT : TR w (G.promise b xs.length (.slot t 0)) (.slot t) (cpS .look (AV.slice (.own f) e sz xs)) (a.tmps.getD t undef) :=
              ⟨b, by simp [Gh.promise, upd_same], hO.shared hE (by rw [Gh.promise_same]; exact Nat.le_refl _)⟩
            have := h.turn (t := t) hb (G.promise_off b xs.length (.slot t 0)) hm (x := cpS .look (AV.slice (.own f) e sz xs)) hT
            refine ⟨G.promise b xs.length (.slot t 0), ?_, ?_, fun q x v hq _ hv => TC.turn (G.promise_off b xs.length (.slot t 0)) hE (by rw [hb]; exact fun e => hq _ _ e.symm) hv, rfl, hE⟩
            · show SR w0 F0 A n (st.set t (cpS .look (st.s t))) a w _
              rw [hc]; exact this
            · show TR w _ p (cpV .look (st.s t)) _
              rw [hc]; exact TR_of_CR (hO.frz hE (by rw [Gh.promise_same]; exact Nat.le_refl _) e)
          | _ => rw [hc] at hown; simp [AV.isOwn] at hown
        | _ => rw [hc] at hown; simp [AV.isOwn] at hown
      · cases hc : st.s t with
        | tup xs =>
          obtain ⟨h1, h2⟩ := h.slotTake t p
          refine ⟨G.rename t p, ?_, ?_, fun q x v hq _ hv => TC.rename (fun j => hq t j) hv, rfl, Ext.refl _ _⟩
          · show SR w0 F0 A n (st.set t (cpS .look (st.s t))) a w _
            rw [hc]; rw [hc] at h1; exact h1
          · show TR w _ p (cpV .look (st.s t)) _
            rw [hc]; rw [hc] at h2; exact h2
        | slice c e sz xs =>
          have e1 : cpS .look (st.s t) = st.s t := by rw [hc]; cases c with | own f => rw [hc] at hown; simp [AV.isOwn] at hown | _ => rfl
          have e2 : cpV .look (st.s t) = st.s t := by rw [hc]; cases c with | own f => rw [hc] at hown; simp [AV.isOwn] at hown | _ => rfl
          have hset : st.set t (st.s t) = st := by cases st; simp only [St.set]; congr 1; funext j; simp only [upd]; split <;> simp_all
          refine ⟨G, ?_, ?_, Carry.refl _ _, rfl, Ext.refl _ _⟩
          · show SR w0 F0 A n (st.set t (cpS .look (st.s t))) a w _
            rw [e1, hset]; exact h
          · show TR w _ p (cpV .look (st.s t)) _
            rw [e2, hc]; rw [hc] at hs hown; exact TR_of_CR (CR_of_TC (TC_of_TR hs rfl) (by simpa using hown))
        | ptr k off =>
          have hset : st.set t (st.s t) = st := by cases st; simp only [St.set]; congr 1; funext j; simp only [upd]; split <;> simp_all
          refine ⟨G, ?_, ?_, Carry.refl _ _, rfl, Ext.refl _ _⟩
          · show SR w0 F0 A n (st.set t (cpS .look (st.s t))) a w _
            rw [show cpS .look (st.s t) = st.s t by rw [hc]; rfl, hset]; exact h
          · show TR w _ p (cpV .look (st.s t)) _
            rw [show cpV .look (st.s t) = st.s t by rw [hc]; rfl, hc]; rw [hc] at hs
            cases k with
            | loc s => exact hs
            | obj i => exact TR_of_CR (CR_of_TC (TC_of_TR hs rfl) rfl)
        | skipped =>
          have hset : st.set t (st.s t) = st := by cases st; simp only [St.set]; congr 1; funext j; simp only [upd]; split <;> simp_all
          refine ⟨G, ?_, ?_, Carry.refl _ _, rfl, Ext.refl _ _⟩
          · show SR w0 F0 A n (st.set t (cpS .look (st.s t))) a w _
            rw [show cpS .look (st.s t) = st.s t by rw [hc]; rfl, hset]; exact h
          · show TR w _ p (cpV .look (st.s t)) _
            rw [show cpV .look (st.s t) = st.s t by rw [hc]; rfl, hc]; rw [hc] at hs; exact hs
        | _ =>
          have hset : st.set t (st.s t) = st := by cases st; simp only [St.set]; congr 1; funext j; simp only [upd]; split <;> simp_all
          refine ⟨G, ?_, ?_, Carry.refl _ _, rfl, Ext.refl _ _⟩
          · show SR w0 F0 A n (st.set t (cpS .look (st.s t))) a w _
            rw [show cpS .look (st.s t) = st.s t by rw [hc]; rfl, hset]; exact h
          · show TR w _ p (cpV .look (st.s t)) _
            rw [show cpV .look (st.s t) = st.s t by rw [hc]; rfl, hc]; rw [hc] at hs
            first | trivial | exact TR_of_CR (CR_of_TC (TC_of_TR hs rfl) rfl)
    | head =>
      cases hc : st.s t with
      | tup xs =>
        obtain ⟨h1, h2⟩ := h.slotTake t p
        refine ⟨G.rename t p, ?_, ?_, fun q x v hq _ hv => TC.rename (fun j => hq t j) hv, rfl, Ext.refl _ _⟩
        · show SR w0 F0 A n (st.set t (cpS .head (st.s t))) a w _
          rw [hc]; rw [hc] at h1; exact h1
        · show TR w _ p (cpV .head (st.s t)) _
          rw [hc]; rw [hc] at h2; exact h2
      | _ =>
        have hset : st.set t (st.s t) = st := by cases st; simp only [St.set]; congr 1; funext j; simp only [upd]; split <;> simp_all
        refine ⟨G, ?_, ?_, Carry.refl _ _, rfl, Ext.refl _ _⟩
        · show SR w0 F0 A n (st.set t (cpS .head (st.s t))) a w _
          rw [show cpS .head (st.s t) = st.s t by rw [hc]; rfl, hset]; exact h
        · show TR w _ p (cpV .head (st.s t)) _
          rw [show cpV .head (st.s t) = hdV (st.s t) by rw [hc]; rfl]
          exact clsDeep_left_TR (G' := G) (p := .slot t) (Ext.refl _ _) rfl (h.slots t)
  | m t =>
    obtain rfl := hx
    obtain ⟨G', h1, h2, h3, h4, h5⟩ := h.pin t
    exact ⟨G', h1, h5 p, h2, h3, h4⟩
  | p t => obtain rfl := hx; exact ⟨G, h, hdV_TR_any (h.slots t), Carry.refl _ _, rfl, Ext.refl _ _⟩
  | c v => obtain ⟨own, hx⟩ := hx; exact ⟨G, h, TR_of_CR (const_CR hx), Carry.refl _ _, rfl, Ext.refl _ _⟩
/-! What operands leave alone. -/
theorem pin_b (st : St) (t : Nat) : (pin st t).2.b = st.b := by unfold pin; split <;> rfl
theorem frz_b (st : St) (t i k e sz m : Nat) : (frz st t i k e sz m).2.b = st.b := by unfold frz; repeat (first | rfl | split)
theorem unpin_b (st : St) (t i k e sz m : Nat) : (unpin st t i k e sz m).2.b = st.b := by unfold unpin; repeat (first | rfl | split)
theorem give_b (st : St) (ax : AX) : (give st ax).2.b = st.b := by
  cases ax with
  | f n => unfold give; simp only; split; { exact frz_b .. }; { rfl }
  | m n => exact pin_b _ _
  | _ => rfl
theorem take_b (st : St) (ax : AX) : (take st ax).2.b = st.b := by
  cases ax with
  | u n => unfold take; simp only; split; { exact unpin_b .. }; { rfl }
  | m n => exact pin_b _ _
  | _ => rfl
theorem copy_b (m : Mode) (st : St) (ax : AX) : (copy m st ax).2.b = st.b := by cases ax <;> first | rfl | exact pin_b _ _

structure H.More (h h' : H) : Prop where
  n : h.n ≤ h'.n
  dom : ∀ i, (h.get i).isSome = true → (h'.get i).isSome = true
theorem H.More.refl (h : H) : H.More h h := ⟨Nat.le_refl _, fun _ h => h⟩
theorem H.More.trans {h h1 h2 : H} (a : H.More h h1) (b : H.More h1 h2) : H.More h h2 := ⟨Nat.le_trans a.n b.n, fun i hi => b.dom i (a.dom i hi)⟩
theorem H.More.push (h : H) (o : Obj) : H.More h (h.push o) := ⟨by rw [H.n_push]; omega, fun i hi => by rw [H.get_push]; split; { rfl }; { exact hi }⟩
theorem H.More.set {h : H} {i : Nat} {x : Obj} (hx : h.get i = some x) (o : Obj) : H.More h (h.set i o) := ⟨by rw [H.n_set]; exact Nat.le_refl _, fun j hj => by rw [H.get_set hx]; split; { rfl }; { exact hj }⟩
theorem pin_more (st : St) (t : Nat) : H.More st.h (pin st t).2.h := by unfold pin; split; { exact H.More.push _ _ }; { exact H.More.refl _ }
theorem frz_more (st : St) (t i k e sz m : Nat) : H.More st.h (frz st t i k e sz m).2.h := by
  unfold frz
  split
  · rename_i hg; split; { exact H.More.set hg _ }; { exact H.More.refl _ }
  · split <;> exact H.More.refl _
  · exact H.More.refl _
theorem give_more (st : St) (ax : AX) : H.More st.h (give st ax).2.h := by
  cases ax with
  | f n => unfold give; simp only; split; { exact frz_more .. }; { exact H.More.refl _ }
  | m n => exact pin_more _ _
  | _ => exact H.More.refl _
theorem take_more (st : St) {ax : AX} (hu : ax.isU = false) : H.More st.h (take st ax).2.h := by
  cases ax <;> first | exact H.More.refl _ | exact pin_more _ _ | cases hu
theorem copy_more (m : Mode) (st : St) (ax : AX) : H.More st.h (copy m st ax).2.h := by
  cases ax <;> first | exact H.More.refl _ | exact pin_more _ _

def Less (st st' : St) : Prop := st'.b = st.b ∧ H.More st.h st'.h
theorem Less.refl (st : St) : Less st st := ⟨rfl, H.More.refl _⟩
theorem Less.trans {a b c : St} (h : Less a b) (k : Less b c) : Less a c := ⟨k.1.trans h.1, h.2.trans k.2⟩
theorem give_less (st : St) (ax : AX) : Less st (give st ax).2 := ⟨give_b _ _, give_more _ _⟩
theorem copy_less (m : Mode) (st : St) (ax : AX) : Less st (copy m st ax).2 := ⟨copy_b _ _ _, copy_more _ _ _⟩
theorem take_less (st : St) {ax : AX} (hu : ax.isU = false) : Less st (take st ax).2 := ⟨take_b _ _, take_more _ hu⟩

end Go.Proofs.YtjlioidknhdceaaDoor.Abs
