/- Loads. -/
import Derived.Test.YtjlioidknhdceaaDoorA10
namespace Go.Proofs.YtjlioidknhdceaaDoor.Abs
set_option linter.all false

variable {P : Program} {w w' : World} {G G' : Gh} {a : Act} {o : Oper}
variable {w0 : World} {F0 : FT} {A : Nat → Prop} {n : Nat} {st : St}

theorem runs_load_agg {t : TypeId} {x : Operand} (ho : o.op = .load t x) (ha : tagg P t = some true) {k : Nat} (hn : tsize P t = some k) {ad : Addr} (hx : a.eval x = .pointer (some ad)) (hs : ad.spot = none)
    {f : Nat → Value} (hc : ∀ j, j < k → w.cell? ⟨ad.block, ad.off + j, none⟩ = some (f j)) : Runs P o a w (.agg ((List.range k).map f).toArray) w := by
  have hl : (loadCells ad k).run P w = .ok ((List.range k).map f).toArray w := by
    have := run_loadCells_list (P := P) w ad ((List.range k).map f) (fun j v hj => by
      rw [add_off ad hs]
      have hj' : j < k := by simpa using (List.getElem?_eq_some_iff.1 hj).1
      rw [hc j hj', ← hj]; simp [hj'])
    simpa using this
  simp [Runs, execOp, ho, hx, Instr.loadAt, Instr.sureAddr, loadVar, run_isAgg_true ha, run_sizeOf' hn, hl]

theorem runs_load_one {t : TypeId} {x : Operand} (ho : o.op = .load t x) (ha : tagg P t = some false) {ad : Addr} (hx : a.eval x = .pointer (some ad))
    {v : Value} (hc : w.cell? ad = some v) : Runs P o a w v w := by
  simp [Runs, execOp, ho, hx, Instr.loadAt, Instr.sureAddr, loadVar, run_isAgg_false ha, hc]

theorem SR.turnCell' (h : SR w0 F0 A n st a w G) {s : K} {c b : Nat} {cs : List AV} (hs : st.at s = some (.cells cs)) (hc : c < cs.length) (hb : G.ω b = .cell s c) (ho : Gh.Off G G' b)
    (hm : G.Fr b ≤ G'.Fr b) {x : AV} {v : Value} (hv : ∃ t vs, G.at s = some t ∧ w.heap[t.b]? = some (.cells vs t.e (0, 0)) ∧ vs[c]? = some v) (hx : TC w G' (.cell s c) x v) :
    SR w0 F0 A n (st.setAt s (.cells (cs.set c x))) a w G' := by
  refine h.turnCell hs hc hb ho hm (fun t vs h1 h2 h' _ => ?_)
  obtain ⟨t', vs', k1, k2, k3⟩ := hv
  rw [h1] at k1; injection k1 with k1; subst k1
  rw [h2] at k2; injection k2 with k2; injection k2 with k2 _; subst k2
  rw [Array.getElem?_eq_getElem h'] at k3; injection k3 with k3; rw [k3]; exact hx

theorem splice_one (cs : List AV) (c : Nat) (x : AV) (h : c < cs.length) : splice cs c [x] = cs.set c x := by
  unfold splice
  rw [List.set_eq_take_append_cons_drop, if_pos h]
  simp

theorem cpV_not_own {m : Mode} {x : AV} (h : x.isOwn = false) (h' : x.several = false) : cpV m x = x ∧ cpS m x = x := by
  cases x with
  | slice c e sz xs => cases c <;> first | (simp [AV.isOwn] at h; done) | (cases m <;> exact ⟨rfl, rfl⟩)
  | tup xs => simp [AV.several] at h'
  | _ => cases m <;> exact ⟨rfl, rfl⟩

theorem load_gl (h : SR w0 F0 A n st a w G) {t : TypeId} {x : Operand} (ho : o.op = .load t x) {ag : Bool} (ha : tagg P t = some ag) {k : Nat} (hn : tsize P t = some k)
    {p : Nat → Pos} {g : Nat} (hp : TR w G p (.gl g) (a.eval x)) {m : Mode} {v : AV} {st' : St} (hr : ldV m ag k (.gl g) st = some (v, st')) :
    st' = st ∧ ∃ vv, CR w G.Fr v vv ∧ ∀ w', Pres (fun _ => none) G w w' → Runs P o a w' vv w' := by
  have agg : ∀ {xs : List AV} {f : Nat → Value}, xs.length = k → (∀ i, i < k → (f i).oneCell' = true) → (∀ i (hi : i < xs.length), CR w G.Fr xs[i] (f i)) → CR w G.Fr (.agg xs) (.agg ((List.range k).map f).toArray) := fun hl h1 h2 => by
    refine .agg _ _ (by simp; omega) (fun i hi => ?_) (fun i hi hi' => ?_)
    · simp at hi ⊢; exact h1 i hi
    · simp at hi hi' ⊢; exact h2 i (by omega)
  simp only [ldV, Option.map_eq_some_iff] at hr
  obtain ⟨v0, hv0, hr⟩ := hr
  injection hr with hr1 hr2; subst hr1; subst hr2
  refine ⟨rfl, ?_⟩
  have hpe := TR_gl hp
  unfold glV at hv0
  split at hv0
  · rename_i ys hg
    split at hv0
    · rename_i hle
      injection hv0 with hv0; subst hv0
      have hc := h.heap.glob _ _ hg
      generalize hvv : Value.pointer (some ⟨g, 0, none⟩) = vv at hc
      cases hc with
      | eptr ad _ vs hs hpp hcell hone hcr =>
      injection hvv with hvv; injection hvv with hvv; subst hvv
      refine ⟨_, agg (f := vs) (by simp; omega) (fun i hi => hone i (by omega)) (fun i hi => ?_), fun w' hw' => ?_⟩
      · have := hcr i (by simp at hi; omega); simpa using this
      · exact runs_load_agg ho ha hn hpe hs (fun j hj => hw'.cell _ _ _ (hpp j (by omega)) (hcell j (by omega)))
    · cases hv0
  · rename_i y ys hg
    injection hv0 with hv0; subst hv0
    have hc := h.heap.glob _ _ hg
    generalize hvv : Value.pointer (some ⟨g, 0, none⟩) = vv at hc
    cases hc with
    | eptr ad _ vs hs hpp hcell hone hcr =>
    injection hvv with hvv; injection hvv with hvv; subst hvv
    refine ⟨vs 0, hcr 0 (by simp), fun w' hw' => ?_⟩
    refine runs_load_one ho ha hpe ?_
    have := hw'.cell _ _ _ (hpp 0 (by simp)) (hcell 0 (by simp))
    simpa using this
  · split at hv0
    · rename_i hk0
      injection hv0 with hv0; subst hv0; subst hk0
      exact ⟨_, agg (xs := []) (f := fun _ => undef) (by simp) (fun i hi => absurd hi (by omega)) (fun i hi => absurd hi (by simp)), fun w' _ => runs_load_agg ho ha hn hpe rfl (fun j hj => absurd hj (by omega))⟩
    · cases hv0
  · cases hv0

theorem load_sound (h : SR w0 F0 A n st a w G) {t : TypeId} {x : Operand} (ho : o.op = .load t x) {ag : Bool} (ha : tagg P t = some ag) {k : Nat} (hn : tsize P t = some k)
    {p : Nat → Pos} {pv : AV} (hp : TR w G p pv (a.eval x)) {m : Mode} {v : AV} {st' : St} (hr : ldV m ag k pv st = some (v, st')) (q : Nat → Pos) (hq : q 0 ≠ .free) (hqb : ∀ s, q 0 ≠ .box s) :
    ∃ G' vv, SR w0 F0 A n st' a w G' ∧ TR w G' q v vv ∧ (∀ w', Pres st.at G w w' → Runs P o a w' vv w') ∧ G'.β = G.β ∧ Ext w G.Fr w G'.Fr ∧ (∀ s g, G.ω g = .box s → G'.ω g = .box s) ∧ (∀ q x v, (∀ s c, q ≠ .cell s c) → TC w G q x v → TC w G' q x v) ∧ G'.Fr.θ = G.Fr.θ := by
  have still : ∀ {v : AV} {vv : Value}, CR w G.Fr v vv → (∀ w', Pres st.at G w w' → Runs P o a w' vv w') → st' = st →
      ∃ G' vv, SR w0 F0 A n st' a w G' ∧ TR w G' q v vv ∧ (∀ w', Pres st.at G w w' → Runs P o a w' vv w') ∧ G'.β = G.β ∧ Ext w G.Fr w G'.Fr ∧ (∀ s g, G.ω g = .box s → G'.ω g = .box s) ∧ (∀ q x v, (∀ s c, q ≠ .cell s c) → TC w G q x v → TC w G' q x v) ∧ G'.Fr.θ = G.Fr.θ :=
    fun hC hR hst => ⟨G, _, hst ▸ h, TR_of_CR hC, hR, rfl, Ext.refl _ _, fun _ _ h => h, fun _ _ _ _ h => h, rfl⟩
  have agg : ∀ {xs : List AV} {f : Nat → Value}, xs.length = k → (∀ i, i < k → (f i).oneCell' = true) → (∀ i (hi : i < xs.length), CR w G.Fr xs[i] (f i)) → CR w G.Fr (.agg xs) (.agg ((List.range k).map f).toArray) := fun hl h1 h2 => by
    refine .agg _ _ (by simp; omega) (fun i hi => ?_) (fun i hi hi' => ?_)
    · simp at hi ⊢; exact h1 i hi
    · simp at hi hi' ⊢; exact h2 i (by omega)
  unfold ldV at hr
  split at hr
  · rename_i site off
    simp only [Option.bind_eq_some_iff, Option.map_eq_some_iff] at hr
    obtain ⟨ob, hs, ⟨v1, ob'⟩, hld, hr⟩ := hr
    injection hr with hr1 hr2
    simp only at hr1 hr2
    subst hr1; subst hr2
    obtain ⟨th, h1, h2, hlt, h3⟩ := h.at hs
    obtain ⟨t0, ht0, hpe⟩ := TR_ptr hp
    rw [h1] at ht0; injection ht0 with ht0; subst ht0
    unfold ldO at hld
    split at hld
    · rename_i cs
      split at hld
      · rename_i hle
        injection hld with hld; injection hld with hr1 hr2; subst hr1; subst hr2
        obtain ⟨j1, j2, vs, h4, h5, h6⟩ := h3
        obtain ⟨G', k1, k2, k5, k3, k3', k4⟩ := h.giveRow k hs hle
        rw [giveAll_splice k off cs hle] at k1
        obtain ⟨t', i1, i2, i3, _, _, vs', i4, i5, i6⟩ := k1.at (s := site) (ob := .cells (splice cs off (((cs.drop off).take k).map gvV))) (by rw [St.at_setAt hs, if_pos rfl])
        have hat' : G'.at site = G.at site := by
          cases site with
          | loc s => exact congrFun k3 s
          | obj i => exact congrFun k3' i
        rw [hat', h1] at i1; injection i1 with i1; subst i1
        rw [h4] at i4; injection i4 with i4; injection i4 with i4 _; subst i4
        refine ⟨G', .agg ((List.range k).map (fun i => vs.getD (off + i) undef)).toArray, k1, TR_of_CR ?_, fun w' hw' => ?_, k3, k4, fun s g' hg' => ?_, fun q x v hq hT => k2 q x v (fun c => hq _ c) hT, k3'⟩
        · have hlen : ((cs.drop off).take k).length = k := by simp; omega
          refine .agg _ _ (by simp; omega) (fun i hi => ?_) (fun i hi hi' => ?_)
          · have hik : i < k := by simpa using hi
            have := (h6 (off + i) (by omega) (by omega)).1
            simpa [Array.getD, (by omega : off + i < vs.size)] using this
          · have hik : i < k := by simpa using hi'
            have hsp : (splice cs off (((cs.drop off).take k).map gvV))[off + i]? = (cs[off + i]?).map gvV := by
              rw [← giveAll_splice k off cs hle, giveAll_get k off cs _ hle, if_pos (by omega)]
            have hlt : off + i < cs.length := by omega
            have hlt2 : off + i < (splice cs off (((cs.drop off).take k).map gvV)).length := by
              rw [← giveAll_splice k off cs hle, giveAll_length]; exact hlt
            have hT := (i6 (off + i) hlt2 (by omega)).2
            rw [List.getElem?_eq_getElem hlt2, List.getElem?_eq_getElem hlt] at hsp
            simp only [Option.map_some, Option.some.injEq] at hsp
            rw [hsp] at hT
            have hno : (gvV cs[off + i]).isOwn = false := by cases cs[off + i] <;> first | rfl | (rename_i c _ _ _; cases c <;> rfl)
            have := CR_of_TC hT hno
            simpa [Array.getD, (by omega : off + i < vs.size)] using this
        · refine runs_load_agg ho ha hn hpe rfl (fun j hj => ?_)
          have hh := hw'.box _ _ _ hs h1
          have hlt : off + j < vs.size := by omega
          simp only [World.cell?, hh, h4]
          simp [Array.getElem?_eq_getElem hlt, Array.getD, hlt]
        · rw [k5 g' (fun c => by rw [hg']; intro e; cases e)]; exact hg'
      · cases hld
    · rename_i cs
      simp only [Option.map_eq_some_iff] at hld
      obtain ⟨v0, hv0, hld⟩ := hld
      injection hld with hr1 hr2; subst hr1; subst hr2
      have hlt : off < cs.length := (List.getElem?_eq_some_iff.1 hv0).1
      have hv0' : cs[off] = v0 := (List.getElem?_eq_some_iff.1 hv0).2
      obtain ⟨j1, j2, vs, h4, h5, h6⟩ := h3
      have hltv : off < vs.size := by omega
      have hT := (h6 off hlt hltv).2
      rw [hv0'] at hT
      have hrun : ∀ w', Pres st.at G w w' → Runs P o a w' vs[off] w' := fun w' hw' => by
        refine runs_load_one ho ha hpe ?_
        have hh := hw'.box _ _ _ hs h1
        simp only [World.cell?, hh, h4]
        simp [Array.getElem?_eq_getElem hltv]
      have hex : ∃ t' vs', G.at site = some t' ∧ w.heap[t'.b]? = some (.cells vs' t'.e (0, 0)) ∧ vs'[off]? = some vs[off] := ⟨th, vs, h1, h4, Array.getElem?_eq_getElem hltv⟩
      by_cases hown : v0.isOwn = true
      · cases v0 with
        | slice c e1 sz xs => cases c with
          | own f =>
            obtain ⟨b, hb, hO⟩ := hT
            have hne : ∀ s' g', G.ω g' = .box s' → g' ≠ b := fun s' g' hg' e => by subst e; rw [hb] at hg'; cases hg'
            cases m with
            | take =>
              have hoff : Gh.Off G ⟨G.Fr, G.β, upd G.ω b (q 0)⟩ b := ⟨fun _ _ => rfl, rfl, rfl, fun c hc => upd_ne _ _ _ _ hc⟩
              have := h.turnCell' hs hlt hb hoff (Nat.le_refl _) (x := .slice .hdr e1 sz xs) hex (TC_of_CR (hO.hdr e1))
              refine ⟨⟨G.Fr, G.β, upd G.ω b (q 0)⟩, vs[off], ?_, TR_of_TC ⟨b, by simp [upd], hO⟩ rfl, hrun, rfl, Ext.refl _ _, fun s' g' hg' => by simp only; rw [upd_ne _ _ _ _ (hne s' g' hg')]; exact hg', fun q' x v hq' hT => TC.turn hoff (Ext.refl _ _) (by rw [hb]; exact fun e => hq' _ _ e.symm) hT, rfl⟩
              show SR w0 F0 A n (st.setAt site (.cells (splice cs off [cpS .take (AV.slice (.own f) e1 sz xs)]))) a w _
              rw [splice_one cs off _ hlt]; exact this
            | look =>
              have hle : G.Fr b ≤ xs.length := by obtain ⟨_, _, _, _, _, _, _, h1, _⟩ := hO; exact h1
              have hm : G.Fr b ≤ (G.promise b xs.length (.cell site off)).Fr b := by rw [Gh.promise_same]; exact hle
              have hE : Ext w G.Fr w (G.promise b xs.length (.cell site off)).Fr := (G.promise_off b xs.length (.cell site off)).ext hm
              have := h.turnCell' hs hlt hb (G.promise_off b xs.length (.cell site off)) hm (x := .slice (.own false) e1 sz xs) hex ⟨b, by simp [Gh.promise, upd_same], hO.shared hE (by rw [Gh.promise_same]; exact Nat.le_refl _)⟩
              refine ⟨G.promise b xs.length (.cell site off), vs[off], ?_, TR_of_CR (hO.frz hE (by rw [Gh.promise_same]; exact Nat.le_refl _) e1), hrun, rfl, hE, fun s' g' hg' => by rw [(G.promise_off b xs.length (.cell site off)).ω g' (hne s' g' hg')]; exact hg', fun q' x v hq' hT => TC.turn (G.promise_off b xs.length (.cell site off)) hE (by rw [hb]; exact fun e => hq' _ _ e.symm) hT, rfl⟩
              show SR w0 F0 A n (st.setAt site (.cells (splice cs off [cpS .look (AV.slice (.own f) e1 sz xs)]))) a w _
              rw [splice_one cs off _ hlt]; exact this
            | head =>
              refine ⟨G, vs[off], ?_, TR_of_CR (hO.hdr e1), hrun, rfl, Ext.refl _ _, fun _ _ h => h, fun _ _ _ _ h => h, rfl⟩
              show SR w0 F0 A n (st.setAt site (.cells (splice cs off [AV.slice (.own f) e1 sz xs]))) a w _
              rw [splice_one cs off _ hlt, ← hv0', set_self' cs off hlt, St.setAt_self hs]; exact h
          | _ => simp [AV.isOwn] at hown
        | _ => simp [AV.isOwn] at hown
      · have hC := CR_of_TC hT (by simpa using hown)
        have hsev : v0.several = false := by cases v0 <;> first | rfl | cases hC
        obtain ⟨e1, e2⟩ := cpV_not_own (m := m) (by simpa using hown) hsev
        refine ⟨G, vs[off], ?_, by rw [e1]; exact TR_of_CR hC, hrun, rfl, Ext.refl _ _, fun _ _ h => h, fun _ _ _ _ h => h, rfl⟩
        rw [e2, splice_one cs off _ hlt, ← hv0', set_self' cs off hlt, St.setAt_self hs]; exact h
    · rename_i e sz cs
      split at hld
      · rename_i hle
        injection hld with hld; injection hld with hr1 hr2; subst hr1; subst hr2
        obtain ⟨_, _, _, _, _, j1, _, vs, h4, h5, h6⟩ := h3
        refine still (agg (f := fun i => vs.getD (off + i) undef) (by simp; omega) (fun i hi => ?_) (fun i hi => ?_)) (fun w' hw' => ?_) (St.setAt_self hs)
        · have := (h6 (off + i) (by omega) (by omega)).1
          simpa [Array.getD, (by omega : off + i < vs.size)] using this
        · have hik : i < k := by simp at hi; omega
          have := (h6 (off + i) (by omega) (by omega)).2
          simpa [Array.getD, (by omega : off + i < vs.size)] using this
        · refine runs_load_agg ho ha hn hpe rfl (fun j hj => ?_)
          have hh := hw'.box _ _ _ hs h1
          have hlt : off + j < vs.size := by omega
          simp only [World.cell?, hh, h4]
          simp [Array.getElem?_eq_getElem hlt, Array.getD, hlt]
      · cases hld
    · rename_i e sz cs
      simp only [Option.map_eq_some_iff] at hld
      obtain ⟨v0, hv0, hld⟩ := hld
      injection hld with hr1 hr2; subst hr1; subst hr2
      have hlt : off < cs.length := (List.getElem?_eq_some_iff.1 hv0).1
      have hv0' : cs[off] = v0 := (List.getElem?_eq_some_iff.1 hv0).2
      obtain ⟨_, _, _, _, _, j1, _, vs, h4, h5, h6⟩ := h3
      have hltv : off < vs.size := by omega
      refine still (vv := vs[off]) (by rw [← hv0']; exact (h6 off hlt hltv).2) (fun w' hw' => ?_) (St.setAt_self hs)
      refine runs_load_one ho ha hpe ?_
      have hh := hw'.box _ _ _ hs h1
      simp only [World.cell?, hh, h4]
      simp [Array.getElem?_eq_getElem hltv]
    · rename_i cs
      split at hld
      · rename_i hle
        injection hld with hld; injection hld with hr1 hr2; subst hr1; subst hr2
        have h3' : CR w G.Fr (.eptr cs) (.pointer (some ⟨th.b, 0, none⟩)) := h3
        generalize hvv : Value.pointer (some ⟨th.b, 0, none⟩) = vv at h3'
        cases h3' with
        | eptr ad _ vs hsp hpp hcell hone hcr =>
        injection hvv with hvv; injection hvv with hvv; subst hvv
        refine still (agg (f := fun i => vs (off + i)) (by simp; omega) (fun i hi => hone _ (by omega)) (fun i hi => ?_)) (fun w' hw' => ?_) (St.setAt_self hs)
        · have hik : i < k := by simp at hi; omega
          simpa using hcr (off + i) (by omega)
        · refine runs_load_agg ho ha hn hpe rfl (fun j hj => ?_)
          have := hw'.cell _ _ _ (hpp (off + j) (by omega)) (hcell (off + j) (by omega))
          simpa using this
      · cases hld
    · rename_i cs
      simp only [Option.map_eq_some_iff] at hld
      obtain ⟨v0, hv0, hld⟩ := hld
      injection hld with hr1 hr2; subst hr1; subst hr2
      have hlt : off < cs.length := (List.getElem?_eq_some_iff.1 hv0).1
      have hv0' : cs[off] = v0 := (List.getElem?_eq_some_iff.1 hv0).2
      have h3' : CR w G.Fr (.eptr cs) (.pointer (some ⟨th.b, 0, none⟩)) := h3
      generalize hvv : Value.pointer (some ⟨th.b, 0, none⟩) = vv at h3'
      cases h3' with
      | eptr ad _ vs hsp hpp hcell hone hcr =>
      injection hvv with hvv; injection hvv with hvv; subst hvv
      refine still (vv := vs off) (by rw [← hv0']; exact hcr off hlt) (fun w' hw' => ?_) (St.setAt_self hs)
      refine runs_load_one ho ha hpe ?_
      have := hw'.cell _ _ _ (hpp off hlt) (hcell off hlt)
      simpa using this
    · cases hld
  · rename_i ys
    split at hr
    · rename_i hle
      injection hr with hr; injection hr with hr1 hr2; subst hr1; subst hr2
      obtain ⟨ad, hpe, hc⟩ := TR_eptr hp
      cases hc with
      | eptr _ _ vs hs hpp hcell hone hcr =>
      refine still (agg (f := vs) (by simp; omega) (fun i hi => hone i (by omega)) (fun i hi => ?_)) (fun w' hw' => ?_) rfl
      · have := hcr i (by simp at hi; omega); simpa using this
      · exact runs_load_agg ho ha hn hpe hs (fun j hj => hw'.cell _ _ _ (hpp j (by omega)) (hcell j (by omega)))
    · cases hr
  · rename_i y ys
    injection hr with hr; injection hr with hr1 hr2; subst hr1; subst hr2
    obtain ⟨ad, hpe, hc⟩ := TR_eptr hp
    cases hc with
    | eptr _ _ vs hs hpp hcell hone hcr =>
    refine still (vv := vs 0) (hcr 0 (by simp)) (fun w' hw' => ?_) rfl
    refine runs_load_one ho ha hpe ?_
    have := hw'.cell _ _ _ (hpp 0 (by simp)) (hcell 0 (by simp))
    have e : ad = ⟨ad.block, ad.off + 0, none⟩ := by cases ad; simp at hs; subst hs; rfl
    rw [e]; exact this
  · rename_i ag g
    simp only [Option.map_eq_some_iff] at hr
    obtain ⟨v0, hv0, hr⟩ := hr
    injection hr with hr1 hr2; subst hr1; subst hr2
    have hpe := TR_gl hp
    unfold glV at hv0
    split at hv0
    · rename_i ys hg
      split at hv0
      · rename_i hle
        injection hv0 with hv0; subst hv0
        have hc := h.heap.glob _ _ hg
        generalize hvv : Value.pointer (some ⟨g, 0, none⟩) = vv at hc
        cases hc with
        | eptr ad _ vs hs hpp hcell hone hcr =>
        injection hvv with hvv; injection hvv with hvv; subst hvv
        refine still (agg (f := vs) (by simp; omega) (fun i hi => hone i (by omega)) (fun i hi => ?_)) (fun w' hw' => ?_) rfl
        · have := hcr i (by simp at hi; omega); simpa using this
        · exact runs_load_agg ho ha hn hpe hs (fun j hj => hw'.cell _ _ _ (hpp j (by omega)) (hcell j (by omega)))
      · cases hv0
    · rename_i y ys hg
      injection hv0 with hv0; subst hv0
      have hc := h.heap.glob _ _ hg
      generalize hvv : Value.pointer (some ⟨g, 0, none⟩) = vv at hc
      cases hc with
      | eptr ad _ vs hs hpp hcell hone hcr =>
      injection hvv with hvv; injection hvv with hvv; subst hvv
      refine still (vv := vs 0) (hcr 0 (by simp)) (fun w' hw' => ?_) rfl
      refine runs_load_one ho ha hpe ?_
      have := hw'.cell _ _ _ (hpp 0 (by simp)) (hcell 0 (by simp))
      simpa using this
    · split at hv0
      · rename_i h0
        injection hv0 with hv0; subst hv0; subst h0
        refine still (vv := .agg #[]) (.agg [] #[] rfl (fun i hi => absurd hi (by simp)) (fun i hi => absurd hi (by simp))) (fun w' _ => ?_) rfl
        simpa using runs_load_agg (w := w') (k := 0) (f := fun _ => undef) ho ha hn hpe rfl (fun j hj => absurd hj (by omega))
      · cases hv0
    · cases hv0
  · cases hr

end Go.Proofs.YtjlioidknhdceaaDoor.Abs
