/- Every operation, in a walk. -/
import Derived.Test.YtjlioidknhdceaaDoorH1
namespace Go.Proofs.YtjlioidknhdceaaDoor.Abs
set_option linter.all false
set_option linter.unusedVariables false

variable {P : Program} {sg : FuncId → Nat → Nat} {hs : Nat → Nat} {w w' : World} {G G' : Gh} {a : Act} {o : Oper}
variable {w0 : World} {F0 : FT} {A : Nat → Prop} {n : Nat} {st : St} {β : Type}
variable {cl : FuncId → List AV → H → T (AV × H)}

theorem stab_alloc {st' : St} (h : SR w0 F0 A n st a w G) {obj : Go.Obj} (hx : Ext w G.Fr (w.alloc obj) G'.Fr) (hβ : G'.β = G.β) (hL : Less st st') : Stab st.at G w st'.at G' (w.alloc obj) :=
  ⟨hx, fun s t ht => by rw [hβ]; exact ht, hL.dom, fun s ob t hs hg => by
    obtain ⟨t', k1, k2, k3, k4⟩ := h.at hs
    rw [hg] at k1; injection k1 with k1; subst k1
    exact heap_old w obj t.b k3⟩

theorem pX_notU {own : Bool} {x : Operand} {ax : AX} (h : pX own x = some ax) : ax.isU = false := by
  cases ax with
  | u t => cases x <;> simp [pX] at h; split at h <;> cases h
  | _ => rfl

theorem late_sound (hcl : CallOk P cl) (all : List Oper) {x : AOp} (hx : pOp0 P sg hs all o = some x) (he : x.early = false) (h : SR w0 F0 A n st a w G) {k : AV → St → T β} {R : β → Prop} (hr : (opK cl x st k).All R)
    {next : Act → World → Prop} {Q : Exit → Act → World → Prop} (hn : ∀ v' w', Done w0 F0 A n k R a o.dst st G w (x.calm = true) v' w' → next (a.put o.dst v') w') : o.wp P a w next Q := by
  unfold pOp0 at hx
  split at hx
  case h_1 y hop =>
    split at hx
    · simp only [Option.map_eq_some_iff] at hx
      obtain ⟨ax, hax, rfl⟩ := hx
      simp only [opK] at hr
      obtain ⟨G', h1, h2, h3, h4, h5⟩ := h.takeO (OX.ofm hax) (slotAt o.dst) (by simp [slotAt])
      exact (runs_move hop).wp (hn _ _ ⟨_, _, G', hr, h1, fun d hd => by rw [← slotAt_eq hd]; exact h2, fun hc => by simp [AOp.calm] at hc⟩)
    · simp only [Option.map_eq_some_iff] at hx; obtain ⟨_, _, rfl⟩ := hx; simp [AOp.early] at he
  case h_2 => simp only [Option.map_eq_some_iff] at hx; obtain ⟨_, hh, rfl⟩ := hx; simp [AOp.early, pX_notU hh] at he
  case h_3 => simp only [Option.bind_eq_some_iff, Option.map_eq_some_iff] at hx; obtain ⟨_, _, _, _, _, _, rfl⟩ := hx; simp [AOp.early] at he
  case h_8 => simp only [Option.bind_eq_some_iff, Option.map_eq_some_iff] at hx; obtain ⟨_, _, _, _, _, _, rfl⟩ := hx; simp [AOp.early] at he
  case h_10 => simp only [Option.map_eq_some_iff] at hx; obtain ⟨_, _, rfl⟩ := hx; simp [AOp.early] at he
  case h_11 => simp only [Option.bind_eq_some_iff, Option.map_eq_some_iff] at hx; obtain ⟨_, _, _, _, _, _, rfl⟩ := hx; simp [AOp.early] at he
  case h_12 => simp only [Option.map_eq_some_iff] at hx; obtain ⟨_, _, rfl⟩ := hx; simp [AOp.early] at he
  case h_14 =>
    simp only [Option.bind_eq_some_iff] at hx; obtain ⟨_, _, hx⟩ := hx
    split at hx
    · cases hx
    · simp only [Option.map_eq_some_iff] at hx; obtain ⟨_, _, rfl⟩ := hx; simp [AOp.early] at he
  case h_15 =>
    simp only [Option.bind_eq_some_iff] at hx; obtain ⟨_, _, _, _, hx⟩ := hx
    split at hx
    · simp only [Option.bind_eq_some_iff, Option.some.injEq] at hx; obtain ⟨_, _, rfl⟩ := hx; simp [AOp.early] at he
    · simp only [Option.bind_eq_some_iff, Option.map_eq_some_iff] at hx; obtain ⟨_, _, _, _, rfl⟩ := hx; simp [AOp.early] at he
    · cases hx
  case h_16 =>
    simp only [Option.bind_eq_some_iff] at hx; obtain ⟨⟨_, _⟩, _, _, _, hx⟩ := hx
    split at hx
    · cases hx
    · simp only [Option.map_eq_some_iff] at hx; obtain ⟨_, _, rfl⟩ := hx; simp [AOp.early] at he
  case h_17 => simp only [Option.bind_eq_some_iff, Option.map_eq_some_iff] at hx; obtain ⟨⟨_, _⟩, _, _, _, _, _, _, _, rfl⟩ := hx; simp [AOp.early] at he
  case h_18 => simp only [Option.bind_eq_some_iff, Option.map_eq_some_iff] at hx; obtain ⟨⟨_, _, _⟩, _, _, _, _, _, rfl⟩ := hx; simp [AOp.early] at he
  case h_19 =>
    split at hx
    · simp only [Option.bind_eq_some_iff, Option.map_eq_some_iff] at hx; obtain ⟨_, _, _, _, rfl⟩ := hx; simp [AOp.early] at he
    · cases hx
  case h_20 => injection hx with hx; subst hx; simp [AOp.early] at he
  case h_21 =>
    split at hx
    · simp only [Option.bind_eq_some_iff] at hx; obtain ⟨_, _, hx⟩ := hx
      split at hx
      · simp only [Option.map_eq_some_iff] at hx; obtain ⟨_, _, rfl⟩ := hx; simp [AOp.early] at he
      · split at hx
        · simp only [Option.map_eq_some_iff] at hx; obtain ⟨_, _, rfl⟩ := hx; simp [AOp.early] at he
        · cases hx
    · cases hx
  case h_28 => cases hx
  case h_4 t hop =>
    simp only [Option.bind_eq_some_iff, Option.map_eq_some_iff] at hx
    obtain ⟨d, hd, z, hz, rfl⟩ := hx
    obtain ⟨i, v, hi, hiz, hof⟩ := tzero_inv hz
    have hrow := cells_RowR (ofConst_CR (w := w) (Fr := G.Fr) hof)
    have hnew : (w.alloc (.cells v.cells t)).heap[w.heap.size]? = some (.cells v.cells t) := heap_alloc_new w _
    have hx0 : Ext w G.Fr (w.alloc (.cells v.cells t)) G.Fr := ext_of_kp (kp_alloc w _ (fun _ => False)) (fun _ h => h.elim) h.fresh
    by_cases h4 : hs d = 4
    · rw [if_pos h4] at hr hn
      simp only [opK] at hr
      split at hr
      · rename_i hbd
        obtain ⟨G', h1, h2, h3, h5⟩ := h.newBox1 d hbd (ob := .cells z.cells) (.cells v.cells t) t 0 false ⟨h.fresh _ (Nat.le_refl _), rfl, v.cells, hnew, hrow.1, fun c hc hc' => ⟨(hrow.2 c hc hc').1, TC_of_CR ((hrow.2 c hc hc').2.ext hx0)⟩⟩
        refine (runs_alloc hop hi hiz).wp (hn _ _ ⟨_, _, G', hr, h1, fun d' hd' => ?_, fun _ => ⟨by rw [h3]; exact hx0, h5, fun s hs => ?_, fun s ob t' hs hg => ?_⟩⟩)
        · cases hd.symm.trans hd'; exact h2
        · cases s with
          | loc u =>
            show (upd st.b d _ u).isSome = true
            by_cases hu : u = d
            · subst hu; rw [upd_same]; rfl
            · rw [upd_ne _ _ _ _ hu]; exact hs
          | obj i => exact hs
        · obtain ⟨t2, k1, _, k3, _⟩ := h.at hs
          rw [hg] at k1; injection k1 with k1; subst k1
          exact heap_old w _ _ k3
      · exact hr.elim
    rw [if_neg h4] at hr hn
    split at hr
    · obtain ⟨G', h1, h2, h3, h4⟩ := h.newObj (ob := .cells z.cells) (.cells v.cells t) t 0 false ⟨h.fresh _ (Nat.le_refl _), rfl, v.cells, hnew, hrow.1, fun c hc hc' => ⟨(hrow.2 c hc hc').1, TC_of_CR ((hrow.2 c hc hc').2.ext hx0)⟩⟩
      exact (runs_alloc hop hi hiz).wp (hn _ _ ⟨_, _, G', hr, h1, fun d' _ => TR_mkptr (s := .obj st.h.n) (t := ⟨w.heap.size, 0, t, false⟩) h2, fun hc => by split at hc <;> simp_all [AOp.calm]⟩)
    · obtain ⟨G', h1, h2⟩ := h.newBox d (ob := .cells z.cells) (.cells v.cells t) t 0 false ⟨h.fresh _ (Nat.le_refl _), rfl, v.cells, hnew, hrow.1, fun c hc hc' => ⟨(hrow.2 c hc hc').1, TC_of_CR ((hrow.2 c hc hc').2.ext hx0)⟩⟩
      refine (runs_alloc hop hi hiz).wp (hn _ _ ⟨_, _, G', hr, h1, fun d' hd' => ?_, fun hc => by split at hc <;> simp_all [AOp.calm]⟩)
      cases hd.symm.trans hd'; exact h2
  case h_5 t y hop =>
    simp only [Option.bind_eq_some_iff, Option.map_eq_some_iff] at hx
    obtain ⟨d, hd, ay, hy, rfl⟩ := hx
    have key : ∀ (s : K), pln (take st ay).1 = some () → ∃ G1, SR w0 F0 A n (take st ay).2 a w G1 ∧ (take st ay).1.cells.length = (a.eval y).cells.size ∧
        ObjR (w.alloc (.cells (a.eval y).cells t)) G1 s ⟨w.heap.size, 0, t, false⟩ (.cells (take st ay).1.cells) := fun s hpl => by
      have hpl : (take st ay).1.plain = true := by
        unfold pln at hpl; split at hpl; { assumption }; { cases hpl }
      obtain ⟨G1, g1, g2, g3, g4, g5⟩ := h.takeX hy (fun _ => .cell s 0) (by simp)
      obtain ⟨c1, c2⟩ := cells_TC (p := fun _ => .cell s 0) (s := s) (off := 0) rfl hpl g2
      have hx0 : Ext w G1.Fr (w.alloc (.cells (a.eval y).cells t)) G1.Fr := ext_of_kp (kp_alloc w _ (fun _ => False)) (fun _ h => h.elim) g1.fresh
      refine ⟨G1, g1, c1.symm, g1.fresh _ (Nat.le_refl _), rfl, (a.eval y).cells, heap_alloc_new w _, c1, fun c hc hc' => ?_⟩
      have := c2 c hc hc'
      rw [Nat.zero_add] at this
      exact ⟨this.1, this.2.keeps hx0 (fun b hb hlt => ⟨heap_old w _ b hlt, rfl, hb⟩)⟩
    split at hr
    · simp only [opK, T.All_on] at hr
      obtain ⟨u, hu, hr⟩ := hr
      obtain ⟨G1, g1, _, g3⟩ := key (.obj (take st ay).2.h.n) hu
      obtain ⟨G', h1, h2, h3, h4⟩ := g1.newObj (.cells (a.eval y).cells t) t 0 false g3
      exact (runs_box hop).wp (hn _ _ ⟨_, _, G', hr, h1, fun d' _ => TR_mkptr (s := .obj (take st ay).2.h.n) (t := ⟨w.heap.size, 0, t, false⟩) h2, fun hc => by split at hc <;> simp_all [AOp.calm]⟩)
    · simp only [opK, T.All_on] at hr
      obtain ⟨u, hu, hr⟩ := hr
      obtain ⟨G1, g1, _, g3⟩ := key (.loc d) hu
      obtain ⟨G', h1, h2⟩ := g1.newBox d (.cells (a.eval y).cells t) t 0 false g3
      refine (runs_box hop).wp (hn _ _ ⟨_, _, G', hr, h1, fun d' hd' => ?_, fun hc => by split at hc <;> simp_all [AOp.calm]⟩)
      cases hd.symm.trans hd'; exact h2
  case h_6 t parts hop =>
    simp only [Option.bind_eq_some_iff] at hx
    obtain ⟨z, hz, hx⟩ := hx
    split at hx
    · simp only [Option.bind_eq_some_iff, Option.map_eq_some_iff] at hx
      obtain ⟨pl, hpl, ps, hps, rfl⟩ := hx
      obtain ⟨i, v, hi, hiz, hof⟩ := tzero_inv hz
      have hrow := cells_RowR (ofConst_CR (w := w) (Fr := G.Fr) hof)
      simp only [opK] at hr
      obtain ⟨cs', vs', st', G', e1, e2, e3, e4, e6, e7, e8, e5⟩ := fill_sound hps hr h hrow
      have hfun : (fun (i : Nat) => ((pl[i]?).map fun (q : Nat × Nat × Bool) => (q.1, q.2.1, q.2.2)).map fun (q : Nat × Nat × Bool) => (q.1, q.2.1)) = (fun (i : Nat) => (pl[i]?).map fun (q : Nat × Nat × Bool) => (q.1, q.2.1)) := by
        funext i; cases pl[i]? <;> rfl
      rw [hfun] at e5
      refine (runs_build hop hi hiz hpl e5 w).wp (hn _ _ ⟨_, _, G', e1, e2, fun d _ => TR_of_CR (.agg _ _ e3.1 (fun i hi => (e3.2 i (by rw [← e3.1]; exact hi) hi).1) (fun i hi hi' => (e3.2 i hi hi').2)), fun _ => Stab.less e7 e6 e8⟩)
    · cases hx
  case h_7 t len parts hop =>
    simp only [Option.bind_eq_some_iff] at hx
    obtain ⟨⟨e, sz, by'⟩, hte, z, hz, hx⟩ := hx
    split at hx
    · rename_i hsm
      obtain ⟨hsm, hzl⟩ := hsm
      simp only at hsm hzl
      simp only [Option.map_eq_some_iff] at hx
      obtain ⟨ps, hps, rfl⟩ := hx
      obtain ⟨hu, i', z', hi', hz', hisz, _, hzs, hpos⟩ := telem_inv hte
      obtain ⟨i, v, hi, hiz, hof⟩ := tzero_inv hz
      have hrow := zeros_RowR (k := len) (cells_RowR (ofConst_CR (w := w) (Fr := G.Fr) hof)) hzl hpos
      simp only [opK] at hr
      obtain ⟨cs', vs', st', G1, e1, e2, e3, e4, e6, e7, e8, e5⟩ := fill_sound hps hr h hrow
      have hcl : cs'.length = len * sz := by rw [e4, (repCells_get (k := len) (z := z.cells) (by omega)).1, hzl]
      obtain ⟨G', k1, k2, k3, k4⟩ := e2.newRow (m := len) e sz hpos hcl e3.1 (by
        have : len ≤ len * sz := Nat.le_mul_of_pos_right _ hpos
        simp only [maxLen]; omega) e3.2 (slotAt o.dst) (by simp [slotAt])
      refine (runs_buildSlice hop hte hi hiz hsm e5 w).wp (hn _ _ ⟨_, _, G', e1, k1, fun d hd => by rw [← slotAt_eq hd]; exact k2, fun _ => ?_⟩)
      exact stab_alloc h (e7.trans k4) (k3.trans e6) e8
    · cases hx
  case h_9 t y z hop =>
    simp only [Option.bind_eq_some_iff, Option.map_eq_some_iff] at hx
    obtain ⟨k', hk', ay, hy, az, hz, rfl⟩ := hx
    simp only [opK, T.All_on] at hr
    obtain ⟨b', hb', hr⟩ := hr
    obtain ⟨p, hp⟩ := h.peekX hy
    unfold stV at hb'
    split at hb'
    · rename_i site off hpk
      simp only [Option.bind_eq_some_iff, Option.map_eq_some_iff] at hb'
      obtain ⟨ob, hcs, ob', hso, hb'⟩ := hb'
      subst hb'
      rw [hpk] at hp
      obtain ⟨G1, g1, g2, g3, g4, g5⟩ := h.takeX hz (fun _ => .cell site off) (by simp)
      obtain ⟨t0, hβ, hev⟩ := TR_ptr hp
      have hβ1 : G1.at site = some t0 := by
        cases site with
        | loc s => show G1.β s = some t0; rw [g4]; exact hβ
        | obj i => exact g5.ids i t0 hβ
      unfold stO at hso
      split at hso
      · rename_i cs
        split at hso
        · rename_i hcond
          injection hso with hso; subst hso
          simp only [Bool.and_eq_true, beq_iff_eq, decide_eq_true_eq] at hcond
          obtain ⟨⟨hpl, hlen⟩, hle⟩ := hcond
          obtain ⟨c1, c2⟩ := cells_TC (p := fun _ => .cell site off) (s := site) (off := off) rfl hpl g2
          obtain ⟨t1, k1, k2, k3, j1, j2, cur, k4, k5, k6⟩ := g1.at hcs
          rw [hβ1] at k1; injection k1 with k1; subst k1
          have hst := g1.store hcs (by rw [hlen]; exact hle) c1 c2 hβ1 k4
          have hrun := runs_store (P := P) hop hk' hev k4 (by rw [c1]; exact hlen) (by rw [k5]; exact hle) (fun v hv => by
            obtain ⟨i, hi, rfl⟩ := List.getElem_of_mem hv
            have := (c2 i (by rw [← c1]; simpa using hi) (by simpa using hi)).1
            simpa using this)
          unfold Oper.wp
          rw [hrun, Oper.upon_skip]
          exact hn _ _ ⟨_, _, G1, hr, hst, fun d _ => rfl, fun hc => by simp [AOp.calm] at hc⟩
        · cases hso
      · rename_i e1 sz1 cp1 cs
        split at hso
        · rename_i hcond
          injection hso with hso; subst hso
          simp only [Bool.and_eq_true, beq_iff_eq, decide_eq_true_eq, Bool.not_eq_true'] at hcond
          obtain ⟨⟨⟨hpl, hno⟩, hlen⟩, hle⟩ := hcond
          obtain ⟨c1, c2⟩ := cells_RowR (CR_of_TC (TC_of_TR g2 hpl) hno)
          obtain ⟨t1, k1, k2, k3, j1, j2, j3, j4, j5, j6, j7, cur, k4, k5, k6⟩ := g1.at hcs
          rw [hβ1] at k1; injection k1 with k1; subst k1
          unfold rowTo at hle
          simp only [Bool.or_eq_true, Bool.and_eq_true, decide_eq_true_eq, beq_iff_eq] at hle
          have hlo : off ≤ cs.length := by rcases hle with h | ⟨⟨⟨h, _⟩, _⟩, _⟩ <;> omega
          have hNN : off + k' ≤ t0.N := by
            rcases hle with h | ⟨⟨⟨h, _⟩, _⟩, hr⟩
            · omega
            · cases cp1 with
              | none => cases hr
              | some N =>
                have := j5.2 N rfl
                simp only [roomN, decide_eq_true_eq] at hr
                omega
          have hsp : ∃ m, (splice cs off (take st az).1.cells).length = m * sz1 := by
            rw [splice_length2 hlo, hlen]
            obtain ⟨m, hm⟩ := j7
            rcases Nat.le_total (off + k') cs.length with hl | hl
            · exact ⟨m, by rw [Nat.max_eq_left hl]; exact hm⟩
            · rcases hle with h | ⟨⟨⟨h, hmo⟩, hsz⟩, _⟩
              · exact ⟨m, by rw [Nat.max_eq_left h]; exact hm⟩
              · exact ⟨off / sz1 + 1, by rw [Nat.max_eq_right hl, Nat.add_mul, Nat.div_mul_cancel (Nat.dvd_of_mod_eq_zero hmo), hsz]; omega⟩
          have hst := g1.storeRow (off := off) hcs hlo c1 c2 hβ1 (fun _ => by rw [hlen]; exact hNN) hsp k4
          have hrun := runs_store (P := P) hop hk' hev k4 (by rw [c1]; exact hlen) (by rw [k5]; omega) (fun v hv => by
            obtain ⟨i, hi, rfl⟩ := List.getElem_of_mem hv
            have := (c2 i (by rw [← c1]; simpa using hi) (by simpa using hi)).1
            simpa using this)
          unfold Oper.wp
          rw [hrun, Oper.upon_skip]
          exact hn _ _ ⟨_, _, G1, hr, hst, fun d _ => rfl, fun hc => by simp [AOp.calm] at hc⟩
        · cases hso
      · cases hso
    · cases hb'
  case h_13 s d y hop =>
    split at hx
    · simp only [Option.bind_eq_some_iff, Option.map_eq_some_iff] at hx
      obtain ⟨ay, hy, i, hi, rfl⟩ := hx; simp [AOp.early] at he
    · rename_i hs hd
      simp only [Option.bind_eq_some_iff] at hx
      obtain ⟨ay, hy, ⟨e, sz, by'⟩, hte, hx⟩ := hx
      split at hx
      · injection hx with hx; subst hx; simp [AOp.early] at he
      · cases hx
    · rename_i hs hd
      simp only [Option.bind_eq_some_iff] at hx
      obtain ⟨ay, hy, ⟨e, sz, by'⟩, hte, hx⟩ := hx
      split at hx
      · rename_i hc
        obtain ⟨rfl, hu8⟩ := hc
        injection hx with hx; subst hx
        simp only [opK, T.All_on] at hr
        obtain ⟨v, hv, hr⟩ := hr
        obtain ⟨p, hp⟩ := h.peekX hy
        unfold cvSB at hv
        split at hv
        · rename_i l hl
          rw [hl] at hp
          obtain ⟨t, ht, htl⟩ := TR_str hp
          split at hv
          · injection hv with hv; subst hv
            obtain ⟨G', k1, k2, k3, k4⟩ := h.bytes e t
            rw [htl] at k2
            refine (runs_convSB hop hs hte hu8 ht).wp (hn _ _ ⟨_, _, G', hr, k1, fun d _ => TR_of_CR k2, fun _ => ⟨k4, fun s t ht => by rw [k3]; exact ht, fun _ h => h, fun s ob t' hs hg => ?_⟩⟩)
            obtain ⟨g', j1, j2, j3, j4⟩ := h.at hs
            rw [hg] at j1; injection j1 with j1; subst j1
            exact Lib.bytesWorld_at_old w e t t'.b j3
          · cases hv
        · cases hv
      · cases hx
    · simp only [Option.bind_eq_some_iff, Option.some.injEq] at hx
      obtain ⟨ay, hy, rfl⟩ := hx; simp [AOp.early] at he
    · cases hx
  case h_22 args ats hop =>
    split at hx
    · rename_i y z t u ha hta
      simp only [Option.bind_eq_some_iff] at hx
      obtain ⟨⟨e, sz, by'⟩, hte, ay, hy, az, hz, hx⟩ := hx
      have hpos : 0 < sz := by obtain ⟨_, _, _, _, _, _, _, _, h⟩ := telem_inv hte; exact h
      obtain ⟨p, hp⟩ := h.peekX hz
      obtain ⟨G1, g1, g2, g3, g4, g5⟩ := h.takeO (OX.ofm hy) (fun _ => .mid) (by simp)
      have fin : ∀ {str : Bool} {v : AV}, apV (take st ay).2.h e sz by' str (take st ay).1 (peek st az) = some v → (k v (take st ay).2).All R → x = .append e sz by' str ay az →
          (∀ ys, moreV (take st ay).2.h sz str (peek st az) = some ys → ∃ us kk, ys.length = kk * sz ∧ us.length = ys.length ∧ (∀ c (hc : c < ys.length) (hc' : c < us.length), (us[c]).oneCell' = true ∧ CR w G1.Fr ys[c] us[c]) ∧
            ∀ m vs, w.ownsRow 0 e sz (a.eval y) m vs → m + kk ≤ maxLen → (m + kk) * by' ≤ tooLong → ∃ v' w', (Builtin.append_ #[t, u] o.type #[a.eval y, a.eval z]).run P w = .ok v' w' ∧ AppR w e sz (a.eval y) m vs us v' w' kk) →
          o.wp P a w next Q := by
        intro str v hv hk hxe hmore
        unfold apV at hv
        split at hv
        · rename_i c e' sz' xs heq
          simp only [Option.bind_eq_some_iff] at hv
          obtain ⟨ys, hys, hv⟩ := hv
          obtain ⟨us, kk, m1, m2, m3, m4⟩ := hmore ys hys
          obtain ⟨v', w', G', r1, r2, r3, r4, r5, r6⟩ := app_sound g1 g2 (t := t) (u := u) (ty := o.type) (yv := a.eval z) (by' := by') hpos m1 m2 m3 (r := v) m4 (by rw [heq]; exact hv) (slotAt o.dst) (by simp [slotAt])
          refine (runs_append hop ha hta r1).wp (hn _ _ ⟨v, _, G', hk, r2, fun d hd => by rw [← slotAt_eq hd]; exact r3, fun hc => ?_⟩)
          have hu : ay.isU = false := by rw [hxe] at hc; simpa [AOp.calm] using hc
          refine (Stab.less (G' := G1) g5 g4 (take_less st hu)).trans ⟨r4, fun s t ht => by rw [r6]; exact ht, fun _ h => h, fun s ob t' hs hg => ?_⟩
          obtain ⟨g', j1, j2, j3, j4⟩ := g1.at hs
          rw [hg] at j1; injection j1 with j1; subst j1
          exact (r5 t'.b (by rw [j2]; intro e; cases e) j3).1
        · cases hv
      split at hx
      · rename_i htu
        injection hx with hx; subst hx; subst htu
        simp only [opK, T.All_on] at hr
        obtain ⟨v, hv, hk⟩ := hr
        refine fin hv hk rfl (fun ys hys => ?_)
        unfold moreV at hys
        split at hys
        · rename_i c e' sz' ys' hpk
          split at hys
          · rename_i hcond
            obtain ⟨_, hc1, hc2⟩ := hcond
            injection hys with hys; subst hys
            rw [hpk] at hp
            rcases more_cells hp hc1 hc2 hpos with ⟨e1, e2⟩ | ⟨ad, kk, cap, us, e1, e2, e3, e4, e5, e6⟩
            · subst e2
              refine ⟨[], 0, by simp, rfl, fun c hc => absurd hc (by simp), fun m vs ho _ _ => ?_⟩
              rw [e1]; exact run_app_nil hte ho
            · refine ⟨us, kk, e2, e3, fun c hc hc' => ⟨(e6 c hc hc').1, (e6 c hc hc').2.ext g5⟩, fun m vs ho h1 h2 => ?_⟩
              rw [e1]; exact run_app_slice hte ho (by rw [e3]; exact e2) e4 e5 h1 h2
          · cases hys
        · rename_i i' k' e' sz' m' hpk
          split at hys
          · rename_i hcond
            obtain ⟨_, rfl⟩ := hcond
            rw [hpk] at hp
            obtain ⟨ad, cap, us, e1, e2, e3, e4, e5, e6⟩ := more_hsl g1 (TR_move (q := fun _ => .mid) rfl rfl hp g5 g4) hys
            refine ⟨us, m', e2, e3, e6, fun m vs ho h1 h2 => ?_⟩
            rw [e1]; exact run_app_slice hte ho (by rw [e3]; exact e2) e4 e5 h1 h2
          · cases hys
        · rename_i hpk
          simp at hys
        · cases hys
      · split at hx
        · rename_i hcond
          obtain ⟨rfl, rfl, hku, hu8, hzb⟩ := hcond
          injection hx with hx; subst hx
          simp only [opK, T.All_on] at hr
          obtain ⟨v, hv, hk⟩ := hr
          refine fin hv hk rfl (fun ys hys => ?_)
          unfold moreV at hys
          split at hys
          · simp at hys
          · simp at hys
          · rename_i l hpk
            simp only [if_true, Option.some.injEq] at hys
            subst hys
            rw [hpk] at hp
            obtain ⟨t', ht', htl⟩ := TR_str hp
            have hsz : t'.size = l.length := by rw [size_list, htl]
            refine ⟨Lib.strCells t', t'.size, by simp [byteCells, hsz], by simp [byteCells, hsz, Lib.strCells_length], fun c hc hc' => ?_, fun m vs ho h1 h2 => ?_⟩
            · subst htl; simp only [byteCells, List.length_map] at hc
              simp [Lib.strCells, byteCells, Value.oneCell']
              exact .int _ _
            · rw [ht']; exact run_app_str hte hku hzb ho h1 (by simpa [tooLong] using h2)
          · cases hys
        · cases hx
    · cases hx
  case h_23 t y hop =>
    simp only [Option.bind_eq_some_iff] at hx
    obtain ⟨d, hd, hx⟩ := hx
    split at hx
    · rename_i hk
      simp only [Option.map_eq_some_iff] at hx
      obtain ⟨ay, hy, rfl⟩ := hx
      simp only [opK, T.All_on] at hr
      obtain ⟨v, hv, hr⟩ := hr
      obtain ⟨p, hp⟩ := h.peekX hy
      unfold cvSS at hv
      split at hv
      · rename_i l hpk
        injection hv with hv; subst hv
        simp only at hr
        rw [hpk] at hp
        obtain ⟨s', he', hl⟩ := TR_str hp
        obtain ⟨G', h1, h2⟩ := h.newBox d (ob := .iter l 0) (.stringIter s' 0) 0 0 false ⟨h.fresh _ (Nat.le_refl _), s', heap_alloc_new w _, hl⟩
        refine (runs_range hop hk he').wp (hn _ _ ⟨_, _, G', hr, h1, fun d' hd' => ?_, fun hc => by simp [AOp.calm] at hc⟩)
        cases hd.symm.trans hd'; exact h2
      · cases hv
    · cases hx
  case h_24 y hop =>
    simp only [Option.map_eq_some_iff] at hx
    obtain ⟨ay, hy, rfl⟩ := hx
    simp only [opK, T.All_on] at hr
    obtain ⟨⟨v, st'⟩, hv, hr⟩ := hr
    obtain ⟨p, hp⟩ := h.peekX hy
    obtain ⟨v', w', e1, e2, e3⟩ := next_sound (P := P) h hop hp hv
    exact e1.wp (hn _ _ ⟨v, st', G, hr, e2, fun d _ => e3 d, fun hc => by simp [AOp.calm] at hc⟩)
  case h_25 t y c hop =>
    simp only [Option.bind_eq_some_iff] at hx
    obtain ⟨⟨e, sz, by'⟩, hte, z, hz, hx⟩ := hx
    split at hx
    · rename_i hzl
      simp only [Option.bind_eq_some_iff, Option.map_eq_some_iff] at hx
      obtain ⟨ay, hy, ac, hc, rfl⟩ := hx
      simp only [opK, T.All_on] at hr
      obtain ⟨⟨v, st'⟩, hv, hr⟩ := hr
      obtain ⟨p, hp⟩ := h.peekX hy
      obtain ⟨q, hq⟩ := h.peekX hc
      obtain ⟨v', w', G', e1, e2, e3, e4⟩ := mk_sound (P := P) h hop hte hz hzl hp hq hv (slotAt o.dst) (by simp [slotAt])
      refine e1.wp (hn _ _ ⟨v, st', G', hr, e2, fun d hd => by rw [← slotAt_eq hd]; exact e3, fun hc => ?_⟩)
      obtain ⟨i1, i2, rfl, ob, rfl⟩ := e4 (by simpa [AOp.calm] using hc)
      exact stab_alloc h i2 i1 (Less.refl _)
    · cases hx
  case h_26 args ats hop =>
    split at hx
    · rename_i y z t u ha hta
      simp only [Option.bind_eq_some_iff] at hx
      obtain ⟨⟨e, sz, by'⟩, hte, ay, hy, az, hz, hx⟩ := hx
      have fin : ∀ {str : Bool}, (str = true → sz = 1) → x = .copyB sz str ay az → o.wp P a w next Q := by
        intro str hstr hxe
        subst hxe
        simp only [opK, T.All_on] at hr
        obtain ⟨⟨v, st'⟩, hv, hr⟩ := hr
        obtain ⟨G1, g1, g2, g3, g4, g5⟩ := h.giveO (OX.ofm hy)
        obtain ⟨q, hq⟩ := g1.peekX hz
        have hsev : (give st ay).1.several = false := by
          unfold cpRow at hv
          split at hv
          · rename_i hg; rw [hg]; rfl
          · rename_i hg; rw [hg]; rfl
          · cases hv
        obtain ⟨v', w', e1, e2, e3⟩ := cp_sound (P := P) g1 hop ha hta hte (g5 hsev (fun _ => .mid)) hq hstr hv
        exact e1.wp (hn _ _ ⟨v, st', G1, hr, e2, fun d _ => TR_of_CR e3, fun hc => by simp [AOp.calm] at hc⟩)
      split at hx
      · injection hx with hx; exact fin (by simp) hx.symm
      · split at hx
        · rename_i hcond; injection hx with hx; exact fin (fun _ => hcond.1) hx.symm
        · cases hx
    · cases hx
  case h_27 f args ats hop =>
    simp only [Option.map_eq_some_iff] at hx
    obtain ⟨ps, hps, hxe⟩ := hx
    have hrun : (execOp a.eval o).run P w = (callFunc f (args.map a.eval)).run P w := by
      simp [execOp, hop, resolve, Act.eval, invoke, Deferred.ofValue]
    split at hxe
    · subst hxe
      simp only [opK] at hr
      obtain ⟨vs, st', G1, e1, e2, e3, e4, e5, e6, e7, e8, e9⟩ := args_sound hps hr h
      simp only [T.All_bind] at e1
      have main : ∀ {v : AV × H} {e : Ending} {w'' : World}, (k v.1 ⟨st'.s, st'.b, v.2⟩).All R → CallPost w G1.Fr (outOwn G1.ω) v e w'' → ∃ v', e = .returned v' ∧ next (a.put o.dst v') w'' := by
        intro v e w'' hk hp
        obtain ⟨v', G', he', hS, hT⟩ := e2.called hp o.dst
        subst he'
        exact ⟨v', rfl, hn _ _ ⟨v.1, _, G', hk, hS, fun d hd => by rw [← slotAt_eq hd]; exact hT, fun hc => by simp [AOp.calm] at hc⟩⟩
      unfold Oper.wp
      rw [hrun]
      rcases hcl f vs st'.h _ e1 w G1 (args.map a.eval) (by simp [e3]) (fun i hi hi' => by
        have := e4 i hi (by rw [← e3]; exact hi)
        simpa using this) e2.heap (fun b hb => (e2.mine b (fun e => by unfold outOwn at hb; rw [e] at hb; cases hb)).1) e2.fresh with ⟨v1, w1, r0, r1, hk, r2⟩ | ⟨g, r1, r2⟩
      · rw [r1]
        obtain ⟨v', e', hh⟩ := main hk r2
        injection e' with e'; subst e'
        exact hh
      · rw [r1, Oper.upon_enter]
        refine Calls.mono r2 (fun e w'' ⟨r0, hk, hp⟩ => ?_)
        obtain ⟨v', he', hh⟩ := main hk hp
        subst he'; exact hh
    · subst hxe
      simp only [opK] at hr
      obtain ⟨vs, st', G1, e1, e2, e3, e4, e5, e6, e7, e8, e9⟩ := args_sound hps hr h
      simp only [T.All_bind, T.All_on] at e1
      have main : ∀ {r0 : AV × H} {e : Ending} {w'' : World}, (∃ v, noHeap st'.h.n r0 = some v ∧ (k v st').All R) → CallPost w G1.Fr (outOwn G1.bare.ω) r0 e w'' → ∃ v', e = .returned v' ∧ next (a.put o.dst v') w'' := by
        intro r0 e w'' ⟨v, hnh, hk⟩ hp
        obtain ⟨v', G', he', hS, hT, hSt⟩ := e2.calledP hnh hp o.dst
        subst he'
        refine ⟨v', rfl, hn _ _ ⟨v, st', G', hk, hS, fun d hd => by rw [← slotAt_eq hd]; exact hT, fun hc => ?_⟩⟩
        have hu : ∀ q ∈ ps, q.1.isU = false := by
          intro q hq
          have := List.all_eq_true.1 (by simpa only [AOp.calm] using hc) q hq
          simpa using this
        exact (Stab.less (G' := G1) e7 e6 (e9 hu)).trans hSt
      unfold Oper.wp
      rw [hrun]
      rcases hcl f vs st'.h.mask _ e1 w G1.bare (args.map a.eval) (by simp [e3]) (fun i hi hi' => by
        have := e4 i hi (by rw [← e3]; exact hi)
        simp only [Nat.zero_add] at this
        exact ⟨by simpa using this.1.bare, this.2⟩) e2.heap.mask (fun b hb => by
          obtain ⟨i, hi⟩ := Gh.bare_out.1 hb
          exact (e2.mine b (by rw [hi]; simp)).1) e2.fresh with ⟨v1, w1, r0, r1, hk, r2⟩ | ⟨g, r1, r2⟩
      · rw [r1]
        obtain ⟨v', e', hh⟩ := main hk r2
        injection e' with e'; subst e'
        exact hh
      · rw [r1, Oper.upon_enter]
        refine Calls.mono r2 (fun e w'' ⟨r0, hk, hp⟩ => ?_)
        obtain ⟨v', he', hh⟩ := main hk hp
        subst he'; exact hh

end Go.Proofs.YtjlioidknhdceaaDoor.Abs
