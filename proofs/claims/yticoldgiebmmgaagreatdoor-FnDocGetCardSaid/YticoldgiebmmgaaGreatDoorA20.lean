/- A19, X1, X2, S2, A20 -/
import Derived.Test.YticoldgiebmmgaaGreatDoorH1
import Derived.KernelRfl
import Derived.Lib.BytesEntry
import Derived.ChangeKeysEq
import Derived.OrdersHeld
/- Every operation, in a walk. -/
namespace Go.Proofs.YticoldgiebmmgaaGreatDoor.Abs
set_option linter.all false
set_option linter.unusedVariables false

variable {P : Program} {sg : FuncId → Nat → Nat} {hs : Nat → Nat} {w w' : World} {G G' : Gh} {a : Act} {o : Oper}
variable {w0 : World} {F0 : FT} {A : Nat → Prop} {n : Nat} {st : St} {β : Type}
variable {cl : FuncId → List AV → H → T (AV × H)}

theorem stab_alloc {st' : St} (h : SR w0 F0 A n st a w G) {obj : Go.Obj} (hx : Ext w G.Fr (w.alloc obj) G'.Fr) (hβ : G'.β = G.β) (hL : Less st st') : Stab st.at G w st'.at G' (w.alloc obj) :=
  ⟨hx, fun s t ht => by rw [hβ]; exact ht, hL.dom, fun s ob t hs hg => by
    obtain ⟨t', k1, k2, k3, k4⟩ := h.at hs
    rw [hg] at k1; injection k1 with k1; subst k1
    exact heap_old w obj t.b k3⟩

theorem pX_notU {own : Bool} {x : Operand} {ax : AX} (h : pX own x = some ax) : ax.isU = false := by
  cases ax with
  | u t => cases x <;> simp [pX] at h; split at h <;> cases h
  | _ => rfl

theorem late_sound (hcl : CallOk P cl) (all : List Oper) {x : AOp} (hx : pOp0 P sg hs all o = some x) (he : x.early = false) (h : SR w0 F0 A n st a w G) {k : AV → St → T β} {R : β → Prop} (hr : (opK cl x st k).All R)
    {next : Act → World → Prop} {Q : Exit → Act → World → Prop} (hn : ∀ v' w', Done w0 F0 A n k R a o.dst st G w (x.calm = true) v' w' → next (a.put o.dst v') w') : o.wp P a w next Q := by
  unfold pOp0 at hx
  split at hx
  case h_1 => simp only [Option.map_eq_some_iff] at hx; obtain ⟨_, _, rfl⟩ := hx; simp [AOp.early] at he
  case h_2 => simp only [Option.map_eq_some_iff] at hx; obtain ⟨_, hh, rfl⟩ := hx; simp [AOp.early, pX_notU hh] at he
  case h_3 => simp only [Option.bind_eq_some_iff, Option.map_eq_some_iff] at hx; obtain ⟨_, _, _, _, _, _, rfl⟩ := hx; simp [AOp.early] at he
  case h_8 => simp only [Option.bind_eq_some_iff, Option.map_eq_some_iff] at hx; obtain ⟨_, _, _, _, _, _, rfl⟩ := hx; simp [AOp.early] at he
  case h_10 => simp only [Option.map_eq_some_iff] at hx; obtain ⟨_, _, rfl⟩ := hx; simp [AOp.early] at he
  case h_11 => simp only [Option.bind_eq_some_iff, Option.map_eq_some_iff] at hx; obtain ⟨_, _, _, _, _, _, rfl⟩ := hx; simp [AOp.early] at he
  case h_12 => simp only [Option.map_eq_some_iff] at hx; obtain ⟨_, _, rfl⟩ := hx; simp [AOp.early] at he
  case h_14 =>
    simp only [Option.bind_eq_some_iff] at hx; obtain ⟨_, _, hx⟩ := hx
    split at hx
    · cases hx
    · simp only [Option.map_eq_some_iff] at hx; obtain ⟨_, _, rfl⟩ := hx; simp [AOp.early] at he
  case h_15 =>
    simp only [Option.bind_eq_some_iff] at hx; obtain ⟨_, _, _, _, hx⟩ := hx
    split at hx
    · simp only [Option.bind_eq_some_iff, Option.some.injEq] at hx; obtain ⟨_, _, rfl⟩ := hx; simp [AOp.early] at he
    · simp only [Option.bind_eq_some_iff, Option.map_eq_some_iff] at hx; obtain ⟨_, _, _, _, rfl⟩ := hx; simp [AOp.early] at he
    · cases hx
  case h_16 =>
    simp only [Option.bind_eq_some_iff] at hx; obtain ⟨⟨_, _⟩, _, _, _, hx⟩ := hx
    split at hx
    · cases hx
    · simp only [Option.map_eq_some_iff] at hx; obtain ⟨_, _, rfl⟩ := hx; simp [AOp.early] at he
  case h_17 => simp only [Option.bind_eq_some_iff, Option.map_eq_some_iff] at hx; obtain ⟨⟨_, _⟩, _, _, _, _, _, _, _, rfl⟩ := hx; simp [AOp.early] at he
  case h_18 => simp only [Option.bind_eq_some_iff, Option.map_eq_some_iff] at hx; obtain ⟨⟨_, _, _⟩, _, _, _, _, _, rfl⟩ := hx; simp [AOp.early] at he
  case h_19 =>
    split at hx
    · simp only [Option.bind_eq_some_iff, Option.map_eq_some_iff] at hx; obtain ⟨_, _, _, _, rfl⟩ := hx; simp [AOp.early] at he
    · cases hx
  case h_20 => injection hx with hx; subst hx; simp [AOp.early] at he
  case h_21 =>
    split at hx
    · simp only [Option.bind_eq_some_iff] at hx; obtain ⟨_, _, hx⟩ := hx
      split at hx
      · simp only [Option.map_eq_some_iff] at hx; obtain ⟨_, _, rfl⟩ := hx; simp [AOp.early] at he
      · split at hx
        · simp only [Option.map_eq_some_iff] at hx; obtain ⟨_, _, rfl⟩ := hx; simp [AOp.early] at he
        · cases hx
    · cases hx
  case h_28 => cases hx
  case h_4 t hop =>
    simp only [Option.bind_eq_some_iff, Option.map_eq_some_iff] at hx
    obtain ⟨d, hd, z, hz, rfl⟩ := hx
    obtain ⟨i, v, hi, hiz, hof⟩ := tzero_inv hz
    have hrow := cells_RowR (ofConst_CR (w := w) (Fr := G.Fr) hof)
    have hnew : (w.alloc (.cells v.cells t)).heap[w.heap.size]? = some (.cells v.cells t) := heap_alloc_new w _
    have hx0 : Ext w G.Fr (w.alloc (.cells v.cells t)) G.Fr := ext_of_kp (kp_alloc w _ (fun _ => False)) (fun _ h => h.elim) h.fresh
    by_cases h4 : hs d = 4
    · rw [if_pos h4] at hr hn
      simp only [opK] at hr
      split at hr
      · rename_i hbd
        obtain ⟨G', h1, h2, h3, h5⟩ := h.newBox1 d hbd (ob := .cells z.cells) (.cells v.cells t) t 0 false ⟨h.fresh _ (Nat.le_refl _), rfl, v.cells, hnew, hrow.1, fun c hc hc' => ⟨(hrow.2 c hc hc').1, TC_of_CR ((hrow.2 c hc hc').2.ext hx0)⟩⟩
        refine (runs_alloc hop hi hiz).wp (hn _ _ ⟨_, _, G', hr, h1, fun d' hd' => ?_, fun _ => ⟨by rw [h3]; exact hx0, h5, fun s hs => ?_, fun s ob t' hs hg => ?_⟩⟩)
        · cases hd.symm.trans hd'; exact h2
        · cases s with
          | loc u =>
            show (upd st.b d _ u).isSome = true
            by_cases hu : u = d
            · subst hu; rw [upd_same]; rfl
            · rw [upd_ne _ _ _ _ hu]; exact hs
          | obj i => exact hs
        · obtain ⟨t2, k1, _, k3, _⟩ := h.at hs
          rw [hg] at k1; injection k1 with k1; subst k1
          exact heap_old w _ _ k3
      · exact hr.elim
    rw [if_neg h4] at hr hn
    split at hr
    · obtain ⟨G', h1, h2, h3, h4⟩ := h.newObj (ob := .cells z.cells) (.cells v.cells t) t 0 false ⟨h.fresh _ (Nat.le_refl _), rfl, v.cells, hnew, hrow.1, fun c hc hc' => ⟨(hrow.2 c hc hc').1, TC_of_CR ((hrow.2 c hc hc').2.ext hx0)⟩⟩
      exact (runs_alloc hop hi hiz).wp (hn _ _ ⟨_, _, G', hr, h1, fun d' _ => TR_mkptr (s := .obj st.h.n) (t := ⟨w.heap.size, 0, t, false⟩) h2, fun hc => by split at hc <;> simp_all [AOp.calm]⟩)
    · obtain ⟨G', h1, h2⟩ := h.newBox d (ob := .cells z.cells) (.cells v.cells t) t 0 false ⟨h.fresh _ (Nat.le_refl _), rfl, v.cells, hnew, hrow.1, fun c hc hc' => ⟨(hrow.2 c hc hc').1, TC_of_CR ((hrow.2 c hc hc').2.ext hx0)⟩⟩
      refine (runs_alloc hop hi hiz).wp (hn _ _ ⟨_, _, G', hr, h1, fun d' hd' => ?_, fun hc => by split at hc <;> simp_all [AOp.calm]⟩)
      cases hd.symm.trans hd'; exact h2
  case h_5 t y hop =>
    simp only [Option.bind_eq_some_iff, Option.map_eq_some_iff] at hx
    obtain ⟨d, hd, ay, hy, rfl⟩ := hx
    have key : ∀ (s : K), pln (take st ay).1 = some () → ∃ G1, SR w0 F0 A n (take st ay).2 a w G1 ∧ (take st ay).1.cells.length = (a.eval y).cells.size ∧
        ObjR (w.alloc (.cells (a.eval y).cells t)) G1 s ⟨w.heap.size, 0, t, false⟩ (.cells (take st ay).1.cells) := fun s hpl => by
      have hpl : (take st ay).1.plain = true := by
        unfold pln at hpl; split at hpl; { assumption }; { cases hpl }
      obtain ⟨G1, g1, g2, g3, g4, g5⟩ := h.takeX hy (fun _ => .cell s 0) (by simp)
      obtain ⟨c1, c2⟩ := cells_TC (p := fun _ => .cell s 0) (s := s) (off := 0) rfl hpl g2
      have hx0 : Ext w G1.Fr (w.alloc (.cells (a.eval y).cells t)) G1.Fr := ext_of_kp (kp_alloc w _ (fun _ => False)) (fun _ h => h.elim) g1.fresh
      refine ⟨G1, g1, c1.symm, g1.fresh _ (Nat.le_refl _), rfl, (a.eval y).cells, heap_alloc_new w _, c1, fun c hc hc' => ?_⟩
      have := c2 c hc hc'
      rw [Nat.zero_add] at this
      exact ⟨this.1, this.2.keeps hx0 (fun b hb hlt => ⟨heap_old w _ b hlt, rfl, hb⟩)⟩
    split at hr
    · simp only [opK, T.All_on] at hr
      obtain ⟨u, hu, hr⟩ := hr
      obtain ⟨G1, g1, _, g3⟩ := key (.obj (take st ay).2.h.n) hu
      obtain ⟨G', h1, h2, h3, h4⟩ := g1.newObj (.cells (a.eval y).cells t) t 0 false g3
      exact (runs_box hop).wp (hn _ _ ⟨_, _, G', hr, h1, fun d' _ => TR_mkptr (s := .obj (take st ay).2.h.n) (t := ⟨w.heap.size, 0, t, false⟩) h2, fun hc => by split at hc <;> simp_all [AOp.calm]⟩)
    · simp only [opK, T.All_on] at hr
      obtain ⟨u, hu, hr⟩ := hr
      obtain ⟨G1, g1, _, g3⟩ := key (.loc d) hu
      obtain ⟨G', h1, h2⟩ := g1.newBox d (.cells (a.eval y).cells t) t 0 false g3
      refine (runs_box hop).wp (hn _ _ ⟨_, _, G', hr, h1, fun d' hd' => ?_, fun hc => by split at hc <;> simp_all [AOp.calm]⟩)
      cases hd.symm.trans hd'; exact h2
  case h_6 t parts hop =>
    simp only [Option.bind_eq_some_iff] at hx
    obtain ⟨z, hz, hx⟩ := hx
    split at hx
    · simp only [Option.bind_eq_some_iff, Option.map_eq_some_iff] at hx
      obtain ⟨pl, hpl, ps, hps, rfl⟩ := hx
      obtain ⟨i, v, hi, hiz, hof⟩ := tzero_inv hz
      have hrow := cells_RowR (ofConst_CR (w := w) (Fr := G.Fr) hof)
      simp only [opK] at hr
      obtain ⟨cs', vs', st', G', e1, e2, e3, e4, e6, e7, e8, e5⟩ := fill_sound hps hr h hrow
      have hfun : (fun (i : Nat) => ((pl[i]?).map fun (q : Nat × Nat × Bool) => (q.1, q.2.1, q.2.2)).map fun (q : Nat × Nat × Bool) => (q.1, q.2.1)) = (fun (i : Nat) => (pl[i]?).map fun (q : Nat × Nat × Bool) => (q.1, q.2.1)) := by
        funext i; cases pl[i]? <;> rfl
      rw [hfun] at e5
      refine (runs_build hop hi hiz hpl e5 w).wp (hn _ _ ⟨_, _, G', e1, e2, fun d _ => TR_of_CR (.agg _ _ e3.1 (fun i hi => (e3.2 i (by rw [← e3.1]; exact hi) hi).1) (fun i hi hi' => (e3.2 i hi hi').2)), fun _ => Stab.less e7 e6 e8⟩)
    · cases hx
  case h_7 t len parts hop =>
    simp only [Option.bind_eq_some_iff] at hx
    obtain ⟨⟨e, sz, by'⟩, hte, z, hz, hx⟩ := hx
    split at hx
    · rename_i hsm
      obtain ⟨hsm, hzl⟩ := hsm
      simp only at hsm hzl
      simp only [Option.map_eq_some_iff] at hx
      obtain ⟨ps, hps, rfl⟩ := hx
      obtain ⟨hu, i', z', hi', hz', hisz, _, hzs, hpos⟩ := telem_inv hte
      obtain ⟨i, v, hi, hiz, hof⟩ := tzero_inv hz
      have hrow := zeros_RowR (k := len) (cells_RowR (ofConst_CR (w := w) (Fr := G.Fr) hof)) hzl hpos
      simp only [opK] at hr
      obtain ⟨cs', vs', st', G1, e1, e2, e3, e4, e6, e7, e8, e5⟩ := fill_sound hps hr h hrow
      have hcl : cs'.length = len * sz := by rw [e4, (repCells_get (k := len) (z := z.cells) (by omega)).1, hzl]
      obtain ⟨G', k1, k2, k3, k4⟩ := e2.newRow (m := len) e sz hpos hcl e3.1 (by
        have : len ≤ len * sz := Nat.le_mul_of_pos_right _ hpos
        simp only [maxLen]; omega) e3.2 (slotAt o.dst) (by simp [slotAt])
      refine (runs_buildSlice hop hte hi hiz hsm e5 w).wp (hn _ _ ⟨_, _, G', e1, k1, fun d hd => by rw [← slotAt_eq hd]; exact k2, fun _ => ?_⟩)
      exact stab_alloc h (e7.trans k4) (k3.trans e6) e8
    · cases hx
  case h_9 t y z hop =>
    simp only [Option.bind_eq_some_iff, Option.map_eq_some_iff] at hx
    obtain ⟨k', hk', ay, hy, az, hz, rfl⟩ := hx
    simp only [opK, T.All_on] at hr
    obtain ⟨b', hb', hr⟩ := hr
    obtain ⟨p, hp⟩ := h.peekX hy
    unfold stV at hb'
    split at hb'
    · rename_i site off hpk
      simp only [Option.bind_eq_some_iff, Option.map_eq_some_iff] at hb'
      obtain ⟨ob, hcs, ob', hso, hb'⟩ := hb'
      subst hb'
      rw [hpk] at hp
      obtain ⟨G1, g1, g2, g3, g4, g5⟩ := h.takeX hz (fun _ => .cell site off) (by simp)
      obtain ⟨t0, hβ, hev⟩ := TR_ptr hp
      have hβ1 : G1.at site = some t0 := by
        cases site with
        | loc s => show G1.β s = some t0; rw [g4]; exact hβ
        | obj i => exact g5.ids i t0 hβ
      unfold stO at hso
      split at hso
      · rename_i cs
        split at hso
        · rename_i hcond
          injection hso with hso; subst hso
          simp only [Bool.and_eq_true, beq_iff_eq, decide_eq_true_eq] at hcond
          obtain ⟨⟨hpl, hlen⟩, hle⟩ := hcond
          obtain ⟨c1, c2⟩ := cells_TC (p := fun _ => .cell site off) (s := site) (off := off) rfl hpl g2
          obtain ⟨t1, k1, k2, k3, j1, j2, cur, k4, k5, k6⟩ := g1.at hcs
          rw [hβ1] at k1; injection k1 with k1; subst k1
          have hst := g1.store hcs (by rw [hlen]; exact hle) c1 c2 hβ1 k4
          have hrun := runs_store (P := P) hop hk' hev k4 (by rw [c1]; exact hlen) (by rw [k5]; exact hle) (fun v hv => by
            obtain ⟨i, hi, rfl⟩ := List.getElem_of_mem hv
            have := (c2 i (by rw [← c1]; simpa using hi) (by simpa using hi)).1
            simpa using this)
          unfold Oper.wp
          rw [hrun, Oper.upon_skip]
          exact hn _ _ ⟨_, _, G1, hr, hst, fun d _ => rfl, fun hc => by simp [AOp.calm] at hc⟩
        · cases hso
      · rename_i e1 sz1 cp1 cs
        split at hso
        · rename_i hcond
          injection hso with hso; subst hso
          simp only [Bool.and_eq_true, beq_iff_eq, decide_eq_true_eq, Bool.not_eq_true'] at hcond
          obtain ⟨⟨⟨hpl, hno⟩, hlen⟩, hle⟩ := hcond
          obtain ⟨c1, c2⟩ := cells_RowR (CR_of_TC (TC_of_TR g2 hpl) hno)
          obtain ⟨t1, k1, k2, k3, j1, j2, j3, j4, j5, j6, j7, cur, k4, k5, k6⟩ := g1.at hcs
          rw [hβ1] at k1; injection k1 with k1; subst k1
          have hsp : (splice cs off (take st az).1.cells).length = cs.length := splice_length (by rw [hlen]; exact hle)
          have hst := g1.storeRow (off := off) hcs (by omega) c1 c2 hβ1 (fun _ => by rw [hlen]; omega) (by rw [hsp]; exact j7) k4
          have hrun := runs_store (P := P) hop hk' hev k4 (by rw [c1]; exact hlen) (by rw [k5]; omega) (fun v hv => by
            obtain ⟨i, hi, rfl⟩ := List.getElem_of_mem hv
            have := (c2 i (by rw [← c1]; simpa using hi) (by simpa using hi)).1
            simpa using this)
          unfold Oper.wp
          rw [hrun, Oper.upon_skip]
          exact hn _ _ ⟨_, _, G1, hr, hst, fun d _ => rfl, fun hc => by simp [AOp.calm] at hc⟩
        · cases hso
      · cases hso
    · cases hb'
  case h_13 s d y hop =>
    split at hx
    · simp only [Option.bind_eq_some_iff, Option.map_eq_some_iff] at hx
      obtain ⟨ay, hy, i, hi, rfl⟩ := hx; simp [AOp.early] at he
    · rename_i hs hd
      simp only [Option.bind_eq_some_iff] at hx
      obtain ⟨ay, hy, ⟨e, sz, by'⟩, hte, hx⟩ := hx
      split at hx
      · injection hx with hx; subst hx; simp [AOp.early] at he
      · cases hx
    · rename_i hs hd
      simp only [Option.bind_eq_some_iff] at hx
      obtain ⟨ay, hy, ⟨e, sz, by'⟩, hte, hx⟩ := hx
      split at hx
      · rename_i hc
        obtain ⟨rfl, hu8⟩ := hc
        injection hx with hx; subst hx
        simp only [opK, T.All_on] at hr
        obtain ⟨v, hv, hr⟩ := hr
        obtain ⟨p, hp⟩ := h.peekX hy
        unfold cvSB at hv
        split at hv
        · rename_i l hl
          rw [hl] at hp
          obtain ⟨t, ht, htl⟩ := TR_str hp
          split at hv
          · injection hv with hv; subst hv
            obtain ⟨G', k1, k2, k3, k4⟩ := h.bytes e t
            rw [htl] at k2
            refine (runs_convSB hop hs hte hu8 ht).wp (hn _ _ ⟨_, _, G', hr, k1, fun d _ => TR_of_CR k2, fun _ => ⟨k4, fun s t ht => by rw [k3]; exact ht, fun _ h => h, fun s ob t' hs hg => ?_⟩⟩)
            obtain ⟨g', j1, j2, j3, j4⟩ := h.at hs
            rw [hg] at j1; injection j1 with j1; subst j1
            exact Lib.bytesWorld_at_old w e t t'.b j3
          · cases hv
        · cases hv
      · cases hx
    · simp only [Option.bind_eq_some_iff, Option.some.injEq] at hx
      obtain ⟨ay, hy, rfl⟩ := hx; simp [AOp.early] at he
    · cases hx
  case h_22 args ats hop =>
    split at hx
    · rename_i y z t u ha hta
      simp only [Option.bind_eq_some_iff] at hx
      obtain ⟨⟨e, sz, by'⟩, hte, ay, hy, az, hz, hx⟩ := hx
      have hpos : 0 < sz := by obtain ⟨_, _, _, _, _, _, _, _, h⟩ := telem_inv hte; exact h
      obtain ⟨p, hp⟩ := h.peekX hz
      obtain ⟨G1, g1, g2, g3, g4, g5⟩ := h.takeO (OX.ofm hy) (fun _ => .mid) (by simp)
      have fin : ∀ {str : Bool} {v : AV}, apV (take st ay).2.h e sz by' str (take st ay).1 (peek st az) = some v → (k v (take st ay).2).All R → x = .append e sz by' str ay az →
          (∀ ys, moreV (take st ay).2.h sz str (peek st az) = some ys → ∃ us kk, ys.length = kk * sz ∧ us.length = ys.length ∧ (∀ c (hc : c < ys.length) (hc' : c < us.length), (us[c]).oneCell' = true ∧ CR w G1.Fr ys[c] us[c]) ∧
            ∀ m vs, w.ownsRow 0 e sz (a.eval y) m vs → m + kk ≤ maxLen → (m + kk) * by' ≤ tooLong → ∃ v' w', (Builtin.append_ #[t, u] o.type #[a.eval y, a.eval z]).run P w = .ok v' w' ∧ AppR w e sz (a.eval y) m vs us v' w' kk) →
          o.wp P a w next Q := by
        intro str v hv hk hxe hmore
        unfold apV at hv
        split at hv
        · rename_i c e' sz' xs heq
          simp only [Option.bind_eq_some_iff] at hv
          obtain ⟨ys, hys, hv⟩ := hv
          obtain ⟨us, kk, m1, m2, m3, m4⟩ := hmore ys hys
          obtain ⟨v', w', G', r1, r2, r3, r4, r5, r6⟩ := app_sound g1 g2 (t := t) (u := u) (ty := o.type) (yv := a.eval z) (by' := by') hpos m1 m2 m3 (r := v) m4 (by rw [heq]; exact hv) (slotAt o.dst) (by simp [slotAt])
          refine (runs_append hop ha hta r1).wp (hn _ _ ⟨v, _, G', hk, r2, fun d hd => by rw [← slotAt_eq hd]; exact r3, fun hc => ?_⟩)
          have hu : ay.isU = false := by rw [hxe] at hc; simpa [AOp.calm] using hc
          refine (Stab.less (G' := G1) g5 g4 (take_less st hu)).trans ⟨r4, fun s t ht => by rw [r6]; exact ht, fun _ h => h, fun s ob t' hs hg => ?_⟩
          obtain ⟨g', j1, j2, j3, j4⟩ := g1.at hs
          rw [hg] at j1; injection j1 with j1; subst j1
          exact (r5 t'.b (by rw [j2]; intro e; cases e) j3).1
        · cases hv
      split at hx
      · rename_i htu
        injection hx with hx; subst hx; subst htu
        simp only [opK, T.All_on] at hr
        obtain ⟨v, hv, hk⟩ := hr
        refine fin hv hk rfl (fun ys hys => ?_)
        unfold moreV at hys
        split at hys
        · rename_i c e' sz' ys' hpk
          split at hys
          · rename_i hcond
            obtain ⟨_, hc1, hc2⟩ := hcond
            injection hys with hys; subst hys
            rw [hpk] at hp
            rcases more_cells hp hc1 hc2 hpos with ⟨e1, e2⟩ | ⟨ad, kk, cap, us, e1, e2, e3, e4, e5, e6⟩
            · subst e2
              refine ⟨[], 0, by simp, rfl, fun c hc => absurd hc (by simp), fun m vs ho _ _ => ?_⟩
              rw [e1]; exact run_app_nil hte ho
            · refine ⟨us, kk, e2, e3, fun c hc hc' => ⟨(e6 c hc hc').1, (e6 c hc hc').2.ext g5⟩, fun m vs ho h1 h2 => ?_⟩
              rw [e1]; exact run_app_slice hte ho (by rw [e3]; exact e2) e4 e5 h1 h2
          · cases hys
        · rename_i i' k' e' sz' m' hpk
          split at hys
          · rename_i hcond
            obtain ⟨_, rfl⟩ := hcond
            rw [hpk] at hp
            obtain ⟨ad, cap, us, e1, e2, e3, e4, e5, e6⟩ := more_hsl g1 (TR_move (q := fun _ => .mid) rfl rfl hp g5 g4) hys
            refine ⟨us, m', e2, e3, e6, fun m vs ho h1 h2 => ?_⟩
            rw [e1]; exact run_app_slice hte ho (by rw [e3]; exact e2) e4 e5 h1 h2
          · cases hys
        · rename_i hpk
          simp at hys
        · cases hys
      · split at hx
        · rename_i hcond
          obtain ⟨rfl, rfl, hku, hu8, hzb⟩ := hcond
          injection hx with hx; subst hx
          simp only [opK, T.All_on] at hr
          obtain ⟨v, hv, hk⟩ := hr
          refine fin hv hk rfl (fun ys hys => ?_)
          unfold moreV at hys
          split at hys
          · simp at hys
          · simp at hys
          · rename_i l hpk
            simp only [if_true, Option.some.injEq] at hys
            subst hys
            rw [hpk] at hp
            obtain ⟨t', ht', htl⟩ := TR_str hp
            have hsz : t'.size = l.length := by rw [size_list, htl]
            refine ⟨Lib.strCells t', t'.size, by simp [byteCells, hsz], by simp [byteCells, hsz, Lib.strCells_length], fun c hc hc' => ?_, fun m vs ho h1 h2 => ?_⟩
            · subst htl; simp only [byteCells, List.length_map] at hc
              simp [Lib.strCells, byteCells, Value.oneCell']
              exact .int _ _
            · rw [ht']; exact run_app_str hte hku hzb ho h1 (by simpa [tooLong] using h2)
          · cases hys
        · cases hx
    · cases hx
  case h_23 t y hop =>
    simp only [Option.bind_eq_some_iff] at hx
    obtain ⟨d, hd, hx⟩ := hx
    split at hx
    · rename_i hk
      simp only [Option.map_eq_some_iff] at hx
      obtain ⟨ay, hy, rfl⟩ := hx
      simp only [opK, T.All_on] at hr
      obtain ⟨v, hv, hr⟩ := hr
      obtain ⟨p, hp⟩ := h.peekX hy
      unfold cvSS at hv
      split at hv
      · rename_i l hpk
        injection hv with hv; subst hv
        simp only at hr
        rw [hpk] at hp
        obtain ⟨s', he', hl⟩ := TR_str hp
        obtain ⟨G', h1, h2⟩ := h.newBox d (ob := .iter l 0) (.stringIter s' 0) 0 0 false ⟨h.fresh _ (Nat.le_refl _), s', heap_alloc_new w _, hl⟩
        refine (runs_range hop hk he').wp (hn _ _ ⟨_, _, G', hr, h1, fun d' hd' => ?_, fun hc => by simp [AOp.calm] at hc⟩)
        cases hd.symm.trans hd'; exact h2
      · cases hv
    · cases hx
  case h_24 y hop =>
    simp only [Option.map_eq_some_iff] at hx
    obtain ⟨ay, hy, rfl⟩ := hx
    simp only [opK, T.All_on] at hr
    obtain ⟨⟨v, st'⟩, hv, hr⟩ := hr
    obtain ⟨p, hp⟩ := h.peekX hy
    obtain ⟨v', w', e1, e2, e3⟩ := next_sound (P := P) h hop hp hv
    exact e1.wp (hn _ _ ⟨v, st', G, hr, e2, fun d _ => e3 d, fun hc => by simp [AOp.calm] at hc⟩)
  case h_25 t y c hop =>
    simp only [Option.bind_eq_some_iff] at hx
    obtain ⟨⟨e, sz, by'⟩, hte, z, hz, hx⟩ := hx
    split at hx
    · rename_i hzl
      simp only [Option.bind_eq_some_iff, Option.map_eq_some_iff] at hx
      obtain ⟨ay, hy, ac, hc, rfl⟩ := hx
      simp only [opK, T.All_on] at hr
      obtain ⟨⟨v, st'⟩, hv, hr⟩ := hr
      obtain ⟨p, hp⟩ := h.peekX hy
      obtain ⟨q, hq⟩ := h.peekX hc
      obtain ⟨v', w', G', e1, e2, e3, e4⟩ := mk_sound (P := P) h hop hte hz hzl hp hq hv (slotAt o.dst) (by simp [slotAt])
      refine e1.wp (hn _ _ ⟨v, st', G', hr, e2, fun d hd => by rw [← slotAt_eq hd]; exact e3, fun hc => ?_⟩)
      obtain ⟨i1, i2, rfl, ob, rfl⟩ := e4 (by simpa [AOp.calm] using hc)
      exact stab_alloc h i2 i1 (Less.refl _)
    · cases hx
  case h_26 args ats hop =>
    split at hx
    · rename_i y z t u ha hta
      simp only [Option.bind_eq_some_iff] at hx
      obtain ⟨⟨e, sz, by'⟩, hte, ay, hy, az, hz, hx⟩ := hx
      have fin : ∀ {str : Bool}, (str = true → sz = 1) → x = .copyB sz str ay az → o.wp P a w next Q := by
        intro str hstr hxe
        subst hxe
        simp only [opK, T.All_on] at hr
        obtain ⟨⟨v, st'⟩, hv, hr⟩ := hr
        obtain ⟨G1, g1, g2, g3, g4, g5⟩ := h.giveO (OX.ofm hy)
        obtain ⟨q, hq⟩ := g1.peekX hz
        have hsev : (give st ay).1.several = false := by
          unfold cpRow at hv
          split at hv
          · rename_i hg; rw [hg]; rfl
          · rename_i hg; rw [hg]; rfl
          · cases hv
        obtain ⟨v', w', e1, e2, e3⟩ := cp_sound (P := P) g1 hop ha hta hte (g5 hsev (fun _ => .mid)) hq hstr hv
        exact e1.wp (hn _ _ ⟨v, st', G1, hr, e2, fun d _ => TR_of_CR e3, fun hc => by simp [AOp.calm] at hc⟩)
      split at hx
      · injection hx with hx; exact fin (by simp) hx.symm
      · split at hx
        · rename_i hcond; injection hx with hx; exact fin (fun _ => hcond.1) hx.symm
        · cases hx
    · cases hx
  case h_27 f args ats hop =>
    simp only [Option.map_eq_some_iff] at hx
    obtain ⟨ps, hps, hxe⟩ := hx
    have hrun : (execOp a.eval o).run P w = (callFunc f (args.map a.eval)).run P w := by
      simp [execOp, hop, resolve, Act.eval, invoke, Deferred.ofValue]
    split at hxe
    · subst hxe
      simp only [opK] at hr
      obtain ⟨vs, st', G1, e1, e2, e3, e4, e5, e6, e7, e8, e9⟩ := args_sound hps hr h
      simp only [T.All_bind] at e1
      have main : ∀ {v : AV × H} {e : Ending} {w'' : World}, (k v.1 ⟨st'.s, st'.b, v.2⟩).All R → CallPost w G1.Fr (outOwn G1.ω) v e w'' → ∃ v', e = .returned v' ∧ next (a.put o.dst v') w'' := by
        intro v e w'' hk hp
        obtain ⟨v', G', he', hS, hT⟩ := e2.called hp o.dst
        subst he'
        exact ⟨v', rfl, hn _ _ ⟨v.1, _, G', hk, hS, fun d hd => by rw [← slotAt_eq hd]; exact hT, fun hc => by simp [AOp.calm] at hc⟩⟩
      unfold Oper.wp
      rw [hrun]
      rcases hcl f vs st'.h _ e1 w G1 (args.map a.eval) (by simp [e3]) (fun i hi hi' => by
        have := e4 i hi (by rw [← e3]; exact hi)
        simpa using this) e2.heap (fun b hb => (e2.mine b (fun e => by unfold outOwn at hb; rw [e] at hb; cases hb)).1) e2.fresh with ⟨v1, w1, r0, r1, hk, r2⟩ | ⟨g, r1, r2⟩
      · rw [r1]
        obtain ⟨v', e', hh⟩ := main hk r2
        injection e' with e'; subst e'
        exact hh
      · rw [r1, Oper.upon_enter]
        refine Calls.mono r2 (fun e w'' ⟨r0, hk, hp⟩ => ?_)
        obtain ⟨v', he', hh⟩ := main hk hp
        subst he'; exact hh
    · subst hxe
      simp only [opK] at hr
      obtain ⟨vs, st', G1, e1, e2, e3, e4, e5, e6, e7, e8, e9⟩ := args_sound hps hr h
      simp only [T.All_bind, T.All_on] at e1
      have main : ∀ {r0 : AV × H} {e : Ending} {w'' : World}, (∃ v, noHeap st'.h.n r0 = some v ∧ (k v st').All R) → CallPost w G1.Fr (outOwn G1.bare.ω) r0 e w'' → ∃ v', e = .returned v' ∧ next (a.put o.dst v') w'' := by
        intro r0 e w'' ⟨v, hnh, hk⟩ hp
        obtain ⟨v', G', he', hS, hT, hSt⟩ := e2.calledP hnh hp o.dst
        subst he'
        refine ⟨v', rfl, hn _ _ ⟨v, st', G', hk, hS, fun d hd => by rw [← slotAt_eq hd]; exact hT, fun hc => ?_⟩⟩
        have hu : ∀ q ∈ ps, q.1.isU = false := by
          intro q hq
          have := List.all_eq_true.1 (by simpa only [AOp.calm] using hc) q hq
          simpa using this
        exact (Stab.less (G' := G1) e7 e6 (e9 hu)).trans hSt
      unfold Oper.wp
      rw [hrun]
      rcases hcl f vs st'.h.mask _ e1 w G1.bare (args.map a.eval) (by simp [e3]) (fun i hi hi' => by
        have := e4 i hi (by rw [← e3]; exact hi)
        simp only [Nat.zero_add] at this
        exact ⟨by simpa using this.1.bare, this.2⟩) e2.heap.mask (fun b hb => by
          obtain ⟨i, hi⟩ := Gh.bare_out.1 hb
          exact (e2.mine b (by rw [hi]; simp)).1) e2.fresh with ⟨v1, w1, r0, r1, hk, r2⟩ | ⟨g, r1, r2⟩
      · rw [r1]
        obtain ⟨v', e', hh⟩ := main hk r2
        injection e' with e'; subst e'
        exact hh
      · rw [r1, Oper.upon_enter]
        refine Calls.mono r2 (fun e w'' ⟨r0, hk, hp⟩ => ?_)
        obtain ⟨v', he', hh⟩ := main hk hp
        subst he'; exact hh

end Go.Proofs.YticoldgiebmmgaaGreatDoor.Abs

/- The operations that read their operands alone, run by the machine. -/
namespace Go.Proofs.YticoldgiebmmgaaGreatDoor.Abs
set_option linter.all false
set_option linter.unusedVariables false

variable {P : Program} {sg : FuncId → Nat → Nat} {hs : Nat → Nat} {w w' : World} {G G' : Gh} {a : Act} {o : Oper}
variable {w0 : World} {F0 : FT} {A : Nat → Prop} {n : Nat} {st : St} {β : Type}

theorem tarr_inv {t e : TypeId} {k sz : Nat} (h : tarr P t = some (k, e, sz)) : P.underlying t = some (.array k e) ∧ tsize P e = some sz := by
  unfold tarr at h
  split at h
  · rename_i k' e' hu
    simp only [Option.map_eq_some_iff] at h
    obtain ⟨i, hi, h⟩ := h
    injection h with h1 h; injection h with h2 h3
    subst h1; subst h2; subst h3
    exact ⟨hu, by simp [tsize, hi]⟩
  · cases h

theorem eptr_drop {F : FT} {ad : Addr} {ys : List AV} (hC : CR w F (.eptr ys) (.pointer (some ad))) (k : Nat) : CR w F (.eptr (ys.drop k)) (.pointer (some (ad.add k))) := by
  cases hC with
  | eptr _ _ vs hs hp hv ho hr =>
    rw [add_off _ hs]
    refine .eptr _ _ (fun i => vs (k + i)) rfl (fun i hi => ?_) (fun i hi => ?_) (fun i hi => ho _ (by simp at hi; omega)) (fun i hi => ?_)
    · simp only [Nat.add_assoc]; exact hp (k + i) (by simp at hi; omega)
    · simp only [Nat.add_assoc]; exact hv (k + i) (by simp at hi; omega)
    · have := hr (k + i) (by simp at hi; omega)
      simpa using this

theorem run_indexArr {t e : TypeId} {k sz : Nat} (ht : tarr P t = some (k, e, sz)) {ad : Addr} {kd : IntKind} {i : Int} (h0 : 0 ≤ i) (h1 : i < (k : Int)) (w' : World) :
    (Instr.indexAt t (.pointer (some ad)) (.int kd i)).run P w' = .ok (.pointer (some (ad.add (i.toNat * sz)))) w' := by
  obtain ⟨hu, hsz⟩ := tarr_inv ht
  simp [Instr.indexAt, asIntOf, run_underlying hu, Instr.sureAddr, h0, h1, run_sizeOf' hsz]

theorem runs_ixArr (h : SR w0 F0 A n st a w G) {t e : TypeId} {k sz : Nat} {x i : Operand} (ho : o.op = .indexAddr t x i) (ht : tarr P t = some (k, e, sz)) {p q : Nat → Pos} {vx vi r : AV}
    (hx : TR w G p vx (a.eval x)) (hi : TR w G q vi (a.eval i)) (hr : iaV k sz st.h vx vi = some r) : ∃ v, (∀ q, TR w G q r v) ∧ ∀ w', Runs P o a w' v w' := by
  unfold iaV at hr
  split at hr
  · rename_i s off _ j
    split at hr
    · rename_i hb
      injection hr with hr; subst hr
      obtain ⟨t0, h1, h2⟩ := TR_ptr hx
      refine ⟨.pointer (some ((⟨t0.b, off, none⟩ : Addr).add (j.toNat * sz))), fun q => ?_, fun w' => ?_⟩
      rotate_left
      · simp only [Runs, execOp, ho, h2, TR_int hi, Sem.run_bind, run_indexArr ht hb.1 hb.2, Result.andThen_ok, Sem.run_pure]
      · rw [add_off _ rfl]
        cases s with
        | loc s => exact ⟨t0, h1, rfl⟩
        | obj i => exact TR_of_CR (.ref _ _ t0 h1)
    · cases hr
  · split at hr
    · rename_i hb
      injection hr with hr; subst hr
      obtain ⟨ad, h2, hC⟩ := TR_eptr hx
      refine ⟨_, fun q => TR_of_CR (eptr_drop hC _), fun w' => ?_⟩
      simp only [Runs, execOp, ho, h2, TR_int hi, Sem.run_bind, run_indexArr ht hb.1 hb.2, Result.andThen_ok, Sem.run_pure]
    · cases hr
  · split at hr
    · rename_i hb
      simp only [Option.map_eq_some_iff] at hr
      obtain ⟨ys, hg, rfl⟩ := hr
      refine ⟨_, fun q => TR_of_CR (eptr_drop (h.heap.glob _ _ hg) _), fun w' => ?_⟩
      simp only [Runs, execOp, ho, TR_gl hx, TR_int hi, Sem.run_bind, run_indexArr ht hb.1 hb.2, Result.andThen_ok, Sem.run_pure]
    · cases hr
  · cases hr

theorem run_sliceArr {t e : TypeId} {k sz : Nat} (ht : tarr P t = some (k, e, sz)) {ad : Addr} {lo hi : Option Operand} {l u : Int} (hl : BoundIs a lo (some 0) l) (hh : BoundIs a hi (some (k : Int)) u)
    (h0 : 0 ≤ l) (h1 : l ≤ u) (h2 : u ≤ (k : Int)) (w' : World) :
    (Instr.sliceAt t (.pointer (some ad)) (lo.map a.eval) (hi.map a.eval) none).run P w' = .ok (.slice (some (if k = l.toNat then ad else ad.add (l.toNat * sz))) (u.toNat - l.toNat) (k - l.toNat)) w' := by
  obtain ⟨hu, hsz⟩ := tarr_inv ht
  have hb := run_bounds (P := P) (a := a) (isS := false) (len := k) (cap := k) hl hh h0 h1 h2 (Nat.le_refl _) w'
  simp [Instr.sliceAt, run_underlying hu, Instr.sureAddr, hb, run_sizeOf' hsz]

theorem eptr_slice {F : FT} {ad : Addr} {ys : List AV} (hC : CR w F (.eptr ys) (.pointer (some ad))) {k e sz l u : Nat} (hz : 0 < sz) (h1 : l ≤ u) (h2 : u ≤ k) (hle : k * sz ≤ ys.length) :
    CR w F (.slice .frz e sz ((ys.drop (l * sz)).take ((u - l) * sz))) (.slice (some (if k = l then ad else ad.add (l * sz))) (u - l) (k - l)) := by
  cases hC with
  | eptr _ _ vs hs hp hv ho hr =>
    have hmul : (u - l) * sz = u * sz - l * sz := Nat.sub_mul _ _ _
    have e1 : u * sz ≤ k * sz := Nat.mul_le_mul_right _ h2
    have e2 : l * sz ≤ u * sz := Nat.mul_le_mul_right _ h1
    have hlen : ((ys.drop (l * sz)).take ((u - l) * sz)).length = (u - l) * sz := by rw [List.length_take, List.length_drop]; omega
    by_cases hcl : (u - l) * sz = 0
    · exact CR_frz_nil (List.eq_nil_of_length_eq_zero (by rw [hlen]; exact hcl)) hz hlen (by omega)
    · have hk : ¬ k = l := fun e => hcl (by rw [show u - l = 0 by omega]; simp)
      rw [if_neg hk, add_off _ hs]
      refine .frz _ _ _ _ ⟨ad.block, ad.off + l * sz, none⟩ _ (fun i => vs (l * sz + i)) (fun _ => rfl) hz hlen (by omega) (fun i hi => ?_) (fun i hi => ?_) (fun i hi => ?_) (fun i hi => ?_)
      · rw [hlen] at hi; have := hp (l * sz + i) (by omega); simp only; omega
      · rw [hlen] at hi; have := hv (l * sz + i) (by omega); rw [← Nat.add_assoc] at this; exact this
      · rw [hlen] at hi; exact ho _ (by omega)
      · have hi2 := hi; rw [hlen] at hi2
        have := hr (l * sz + i) (by omega)
        simpa using this

theorem pOpt_bound (h : SR w0 F0 A n st a w G) {x : Option Operand} {ax : Option AX} (hx : pOpt x = some ax) {k : IntKind} {d v : Int} {kd : IntKind} (hv : peek st (ax.getD (.c (.int k d))) = .int kd v) : BoundIs a x (some d) v := by
  refine bound_inv h hx ?_
  cases ax with
  | none => simp only [Option.getD_none, peek] at hv; injection hv with _ hv; simp [bound, hv]
  | some y => simp only [Option.getD_some] at hv; simp [bound, hv, aIdx]

theorem runs_slArr (h : SR w0 F0 A n st a w G) {t e : TypeId} {k sz : Nat} {x : Operand} {lo hi : Option Operand} (ho : o.op = .slice t x lo hi none) (ht : tarr P t = some (k, e, sz)) (hz : 0 < sz) {alo ahi : Option AX}
    (hlo : pOpt lo = some alo) (hhi : pOpt hi = some ahi) {p : Nat → Pos} {vx r : AV} (hx : TR w G p vx (a.eval x))
    (hr : saV k e sz st.h vx (peek st (alo.getD (.c (.int .i64 0)))) (peek st (ahi.getD (.c (.int .i64 k)))) = some r) : ∃ v, CR w G.Fr r v ∧ ∀ w', Runs P o a w' v w' := by
  generalize hvl : peek st (alo.getD (.c (.int .i64 0))) = vl at hr
  generalize hvh : peek st (ahi.getD (.c (.int .i64 k))) = vh at hr
  unfold saV at hr
  split at hr
  · rename_i i off _ l _ u
    have hbl := pOpt_bound h hlo hvl
    have hbh := pOpt_bound h hhi hvh
    split at hr
    · rename_i hb
      split at hr
      · rename_i cs hg
        injection hr with hr; subst hr
        obtain ⟨t0, h1, h2⟩ := TR_ptr hx
        obtain ⟨t1, k1, k2, k3, k4⟩ := h.heap.box _ _ hg
        rw [h1] at k1; injection k1 with k1; subst k1
        obtain ⟨_, j2, _⟩ := k4
        refine ⟨.slice (some (if k = l.toNat then ⟨t0.b, off, none⟩ else (⟨t0.b, off, none⟩ : Addr).add (l.toNat * sz))) (u.toNat - l.toNat) (k - l.toNat), ?_, fun w' => ?_⟩
        rotate_left
        · simp only [Runs, execOp, ho, h2, Sem.run_bind, Option.map_none, run_sliceArr ht hbl hbh hb.1 hb.2.1 hb.2.2, Result.andThen_ok, Sem.run_pure]
        · refine .hsl _ _ _ _ _ _ _ t0 h1 hz (by omega) (fun hh => ?_)
          refine ⟨?_, fun hr => by rw [j2] at hr; cases hr⟩
          by_cases hk : k = l.toNat
          · rw [if_pos hk]
            rcases hh with hh | hh
            · have : l.toNat * sz = 0 := by omega
              congr 1; omega
            · omega
          · rw [if_neg hk, add_off _ rfl]
      · cases hr
    · cases hr
  · rename_i ys _ l _ u
    have hbl := pOpt_bound h hlo hvl
    have hbh := pOpt_bound h hhi hvh
    split at hr
    · rename_i hb
      injection hr with hr; subst hr
      obtain ⟨ad, h2, hC⟩ := TR_eptr hx
      refine ⟨_, eptr_slice (k := k) hC hz (by omega) (by omega) hb.2.2.2, fun w' => ?_⟩
      simp only [Runs, execOp, ho, h2, Sem.run_bind, Option.map_none, run_sliceArr ht hbl hbh hb.1 hb.2.1 hb.2.2.1, Result.andThen_ok, Sem.run_pure]
    · cases hr
  · rename_i g _ l _ u
    have hbl := pOpt_bound h hlo hvl
    have hbh := pOpt_bound h hhi hvh
    split at hr
    · rename_i hb
      simp only [Option.bind_eq_some_iff] at hr
      obtain ⟨ys, hg, hr⟩ := hr
      split at hr
      · rename_i hle
        injection hr with hr; subst hr
        refine ⟨_, eptr_slice (k := k) (h.heap.glob _ _ hg) hz (by omega) (by omega) hle, fun w' => ?_⟩
        simp only [Runs, execOp, ho, TR_gl hx, Sem.run_bind, Option.map_none, run_sliceArr ht hbl hbh hb.1 hb.2.1 hb.2.2, Result.andThen_ok, Sem.run_pure]
      · cases hr
    · cases hr
  · cases hr

theorem runs_ixAgg {t e : TypeId} {k sz : Nat} {x i : Operand} (ho : o.op = .index t x i) (ht : tarr P t = some (k, e, sz)) {ag : Bool} (hag : tagg P e = some ag) {p q : Nat → Pos} {vx vi r : AV}
    (hx : TR w G p vx (a.eval x)) (hi : TR w G q vi (a.eval i)) (hr : igV ag k sz sz vx vi = some r) : ∃ v, CR w G.Fr r v ∧ ∀ w', Runs P o a w' v w' := by
  obtain ⟨hu, hsz⟩ := tarr_inv ht
  unfold igV at hr
  split at hr
  · rename_i kd j
    split at hr
    · rename_i hb
      unfold aPart at hr
      split at hr
      · rename_i xs
        obtain ⟨vs, he, hc⟩ := TR_agg hx
        cases hc with
        | agg _ _ hl hone hr' =>
        cases ag with
        | true =>
          simp only [if_true] at hr
          split at hr
          · rename_i hle
            injection hr with hr; subst hr
            refine ⟨.agg (vs.extract (j.toNat * sz) (j.toNat * sz + sz)), ?_, fun w' => ?_⟩
            · refine .agg _ _ (by simp; omega) (fun i h => ?_) (fun i h h' => ?_)
              · simp at h ⊢; exact hone _ (by omega)
              · simp at h h' ⊢; exact hr' _ (by omega) (by omega)
            · simp [Runs, execOp, ho, he, TR_int hi, Instr.index, asIntOf, run_underlying hu, hb.1, hb.2, part, run_isAgg_true hag, run_sizeOf' hsz]
          · cases hr
        | false =>
          simp only [Bool.false_eq_true, if_false] at hr
          have hlt : j.toNat * sz < xs.length := (List.getElem?_eq_some_iff.1 hr).1
          have hxe : xs[j.toNat * sz] = r := (List.getElem?_eq_some_iff.1 hr).2
          have hlt' : j.toNat * sz < vs.size := by omega
          refine ⟨vs[j.toNat * sz], by rw [← hxe]; exact hr' _ hlt hlt', fun w' => ?_⟩
          simp [Runs, execOp, ho, he, TR_int hi, Instr.index, asIntOf, run_underlying hu, hb.1, hb.2, part, run_isAgg_false hag, hlt', run_sizeOf' hsz]
      · cases hr
    · cases hr
  · cases hr

theorem TR_pair {q : Nat → Pos} {x : AV} {v : Value} {b : Bool} (h : CR w G.Fr x v) : TR w G q (.tup [x, .bool b]) (.tuple #[v, .bool b]) := by
  refine ⟨#[v, .bool b], rfl, rfl, fun j hj hj' => ?_⟩
  have : j = 0 ∨ j = 1 := by simp at hj; omega
  rcases this with rfl | rfl
  · exact TC_of_CR h
  · exact TC_of_CR (.bool b)

theorem run_zero {t : TypeId} {i : TypeInfo} {v : Value} (hi : P.info? t = some i) (hv : i.zero = some v) (w' : World) : (zeroValue t).run P w' = .ok v w' := by
  simp [zeroValue, typeInfo, hi, hv]

theorem runs_tassert {x : Operand} {xt t : TypeId} {ok : Bool} (ho : o.op = .typeAssert x xt t ok) {kd : Nat} (hk : tkind P t = some kd) (h5 : kd ≠ 5) {z : AV} (hz : tzero P t = some z) {p : Nat → Pos} {vx r : AV}
    (hx : TR w G p vx (a.eval x)) (hr : taV t z ok vx = some r) : ∃ v, (∀ q, TR w G q r v) ∧ ∀ w', Runs P o a w' v w' := by
  obtain ⟨i, zv, hi, hiz, hof⟩ := tzero_inv hz
  have hzC := ofConst_CR (w := w) (Fr := G.Fr) hof
  have : ∃ d', P.underlying t = some d' ∧ ∀ ms, d' ≠ .interface ms := by
    cases hu : P.underlying t with
    | none => simp [tkind, hu] at hk
    | some d' => exact ⟨d', rfl, fun ms e => by subst e; simp [tkind, hu] at hk; exact h5 hk.symm⟩
  obtain ⟨d', hd', hne⟩ := this
  unfold taV at hr
  split at hr
  · rename_i u v
    obtain ⟨vv, hv, hC⟩ := TR_iface hx
    split at hr
    · rename_i hut
      subst hut
      injection hr with hr; subst hr
      cases ok with
      | true =>
        refine ⟨_, fun q => TR_pair hC, fun w' => ?_⟩
        have : (Instr.typeAssert (.iface u vv) xt u true).run P w' = .ok (.tuple #[vv, .bool true]) w' := by
          unfold Instr.typeAssert
          rw [Sem.run_bind, run_underlying hd', Result.andThen_ok]
          cases d' <;> first | (simp; done) | exact absurd rfl (hne _)
        simp [Runs, execOp, ho, hv, this]
      | false =>
        refine ⟨vv, fun q => TR_of_CR hC, fun w' => ?_⟩
        have : (Instr.typeAssert (.iface u vv) xt u false).run P w' = .ok vv w' := by
          unfold Instr.typeAssert
          rw [Sem.run_bind, run_underlying hd', Result.andThen_ok]
          cases d' <;> first | (simp; done) | exact absurd rfl (hne _)
        simp [Runs, execOp, ho, hv, this]
    · rename_i hut
      split at hr
      · rename_i hok
        subst hok
        injection hr with hr; subst hr
        refine ⟨_, fun q => TR_pair hzC, fun w' => ?_⟩
        have : (Instr.typeAssert (.iface u vv) xt t true).run P w' = .ok (.tuple #[zv, .bool false]) w' := by
          unfold Instr.typeAssert
          rw [Sem.run_bind, run_underlying hd', Result.andThen_ok]
          cases d' <;> first | (simp [hut, run_zero hi hiz]; done) | exact absurd rfl (hne _)
        simp [Runs, execOp, ho, hv, this]
      · cases hr
  · split at hr
    · rename_i hok
      subst hok
      injection hr with hr; subst hr
      refine ⟨_, fun q => TR_pair hzC, fun w' => ?_⟩
      have : (Instr.typeAssert .nilIface xt t true).run P w' = .ok (.tuple #[zv, .bool false]) w' := by
        unfold Instr.typeAssert
        rw [Sem.run_bind, run_underlying hd', Result.andThen_ok]
        cases d' <;> first | (simp [run_zero hi hiz]; done) | exact absurd rfl (hne _)
      simp [Runs, execOp, ho, TR_nilI hx, this]
    · cases hr
  · cases hr

theorem tmeths_inv {t : TypeId} {ms : Array (String × TypeId)} (h : tmeths P t = some ms) : P.underlying t = some (.interface ms) := by
  unfold tmeths at h; split at h
  · injection h with h; subst h; assumption
  · cases h

theorem least_none : ∀ {l : List String}, Instr.least l = none ↔ l = []
  | [] => by simp [Instr.least]
  | _ :: _ => by simp [Instr.least]
theorem missing_none {want : Array (String × TypeId)} {got : Array Method} : Instr.missingMethod want got = none ↔ hasAll want got = true := by
  unfold Instr.missingMethod hasAll
  rw [List.all_eq_true]
  generalize hm : (want.toList.filter fun (q : String × TypeId) => match q with | (name, sig) => !got.any fun m => m.name == name && m.sig == sig) = l
  have hl : l = [] ↔ ∀ q ∈ want.toList, (got.any fun m => m.name == q.1 && m.sig == q.2) = true := by
    rw [← hm, List.filter_eq_nil_iff]
    constructor
    · intro h q hq; have := h q hq; simpa using this
    · intro h q hq; have := h q hq; simpa using this
  rw [← hl]
  cases l with
  | nil => simp [Instr.least]
  | cons q l =>
    simp only [List.map_cons, reduceCtorEq, iff_false]
    intro h
    simp only [List.partition_eq_filter_filter] at h
    generalize hns : (q.1 :: l.map (·.1)) = ns at h
    have hne : ns ≠ [] := by rw [← hns]; simp
    generalize hp : (fun (s : String) => s.contains '.') = pr at h
    have h1 : ns.filter (not ∘ pr) = [] := by
      cases hl1 : Instr.least (ns.filter (not ∘ pr)) with
      | none => exact least_none.1 hl1
      | some m => rw [hl1] at h; simp at h
    rw [h1] at h
    have h2 : ns.filter pr = [] := by
      have h3 : Instr.least ((ns.filter pr).map fun id => (id.splitOn ".").getLastD id) = none := h
      simpa using least_none.1 h3
    apply hne
    cases ns with
    | nil => rfl
    | cons m ns =>
      rw [List.filter_eq_nil_iff] at h1 h2
      have a1 := h1 m List.mem_cons_self
      have a2 := h2 m List.mem_cons_self
      simp at a1 a2
      rw [a1] at a2; cases a2

theorem implBy_inv {want : Array (String × TypeId)} {u : TypeId} (h : (implBy P want).contains u = true) : ∃ i, P.info? u = some i ∧ hasAll want i.methods = true := by
  have := List.mem_filter.1 (List.contains_iff_mem.1 h)
  cases hi : P.info? u with
  | none => simp [hi] at this
  | some i => exact ⟨i, rfl, by simpa [hi] using this.2⟩
theorem implNot_inv {want : Array (String × TypeId)} {u : TypeId} (h : (implNot P want).contains u = true) : ∃ i, P.info? u = some i ∧ hasAll want i.methods = false := by
  have := List.mem_filter.1 (List.contains_iff_mem.1 h)
  cases hi : P.info? u with
  | none => simp [hi] at this
  | some i =>
    have := this.2
    simp only [hi, Bool.and_eq_true, Bool.not_eq_true'] at this
    exact ⟨i, rfl, this.2⟩

theorem run_tinfo {t : TypeId} {i : TypeInfo} (h : P.info? t = some i) (w' : World) : (typeInfo t).run P w' = .ok i w' := by simp [typeInfo, h]

theorem runs_tassertI {x : Operand} {xt t : TypeId} {ok : Bool} (ho : o.op = .typeAssert x xt t ok) {ms : Array (String × TypeId)} (hm : tmeths P t = some ms) {z : AV} (hz : tzero P t = some z) {p : Nat → Pos} {vx r : AV}
    (hx : TR w G p vx (a.eval x)) (hr : tiV z ok (implBy P ms) (implNot P ms) vx = some r) : ∃ v, (∀ q, TR w G q r v) ∧ ∀ w', Runs P o a w' v w' := by
  obtain ⟨i, zv, hi, hiz, hof⟩ := tzero_inv hz
  have hzC := ofConst_CR (w := w) (Fr := G.Fr) hof
  have hu := tmeths_inv hm
  unfold tiV at hr
  split at hr
  · rename_i u v
    obtain ⟨vv, hv, hC⟩ := TR_iface hx
    split at hr
    · rename_i hyes
      obtain ⟨j, hj, hall⟩ := implBy_inv hyes
      have hmn := missing_none.2 hall
      injection hr with hr; subst hr
      cases ok with
      | true => exact ⟨_, fun q => TR_pair (.iface u _ _ hC), fun w' => by simp [Runs, execOp, ho, hv, Instr.typeAssert, run_underlying hu, run_tinfo hj, hmn]⟩
      | false => exact ⟨_, fun q => TR_of_CR (.iface u _ _ hC), fun w' => by simp [Runs, execOp, ho, hv, Instr.typeAssert, run_underlying hu, run_tinfo hj, hmn]⟩
    · split at hr
      · rename_i hno
        simp only [Bool.and_eq_true] at hno
        obtain ⟨rfl, hno⟩ := hno
        obtain ⟨j, hj, hall⟩ := implNot_inv hno
        injection hr with hr; subst hr
        cases hmn : Instr.missingMethod ms j.methods with
        | none => rw [missing_none.1 hmn] at hall; cases hall
        | some m => exact ⟨_, fun q => TR_pair hzC, fun w' => by simp [Runs, execOp, ho, hv, Instr.typeAssert, run_underlying hu, run_tinfo hj, hmn, run_zero hi hiz]⟩
      · cases hr
  · split at hr
    · rename_i hok
      subst hok
      injection hr with hr; subst hr
      exact ⟨_, fun q => TR_pair hzC, fun w' => by simp [Runs, execOp, ho, TR_nilI hx, Instr.typeAssert, run_underlying hu, run_zero hi hiz]⟩
    · cases hr
  · cases hr

theorem runs_minmax {args : Array Operand} {ats : Array TypeId} {x y : Operand} {mx : Bool} (ho : o.op = .call ⟨.builtin (if mx then .max else .min), args, ats⟩) (h1 : args.toList = [x, y])
    {p q : Nat → Pos} {vx vy r : AV} (hx : TR w G p vx (a.eval x)) (hy : TR w G q vy (a.eval y)) (hr : mmV mx vx vy = some r) : ∃ v, CR w G.Fr r v ∧ ∀ w', Runs P o a w' v w' := by
  obtain rfl := arr2 h1
  unfold mmV at hr
  split at hr
  · split at hr
    · rename_i hk
      subst hk
      injection hr with hr; subst hr
      refine ⟨_, .int _ _, fun w' => ?_⟩
      cases mx with
      | true =>
        simp [Runs, execOp, ho, resolve, invoke, builtin, Builtin.max_, Builtin.max2, TR_int hx, TR_int hy]
      | false =>
        simp [Runs, execOp, ho, resolve, invoke, builtin, Builtin.min_, Builtin.min2, TR_int hx, TR_int hy]
    · cases hr
  · cases hr

theorem TR_flt {k : FloatKind} {n : Nat} {p : Nat → Pos} {v : Value} (h : TR w G p (.flt k n) v) : v = .float k n := by cases CR_of_TC (TC_of_TR h rfl) rfl; rfl
theorem fb_rows : (Extern.allGenericRows.lookup "math.Float64bits").isNone = true ∧ (Extern.allGenericRows.lookup "math.Float64frombits").isNone = true ∧ (Extern.allGenericRows.lookup "math.Float32bits").isNone = true ∧ (Extern.allGenericRows.lookup "math.Float32frombits").isNone = true := by decide +kernel
theorem fb_rows2 : (Extern.allTypedRows.lookup "math.Float64bits").isNone = true ∧ (Extern.allTypedRows.lookup "math.Float64frombits").isNone = true ∧ (Extern.allTypedRows.lookup "math.Float32bits").isNone = true ∧ (Extern.allTypedRows.lookup "math.Float32frombits").isNone = true := by decide +kernel
theorem fb_rows3 : (Extern.allNextRows.lookup "math.Float64bits").isNone = true ∧ (Extern.allNextRows.lookup "math.Float64frombits").isNone = true ∧ (Extern.allNextRows.lookup "math.Float32bits").isNone = true ∧ (Extern.allNextRows.lookup "math.Float32frombits").isNone = true ∧ (Extern.allNextRows.lookup "").isNone = true := by decide +kernel
theorem fb_row0 : Extern.allRows.lookup "math.Float64bits" = some Extern.MathFloatBits.float64bits := by kernel_rfl
theorem fb_row1 : Extern.allRows.lookup "math.Float64frombits" = some Extern.MathFloatBits.float64frombits := by kernel_rfl
theorem fb_row2 : Extern.allRows.lookup "math.Float32bits" = some Extern.MathFloatBits.float32bits := by kernel_rfl
theorem fb_row3 : Extern.allRows.lookup "math.Float32frombits" = some Extern.MathFloatBits.float32frombits := by kernel_rfl

theorem find_of {fn : Func} {n : String} (hn : fn.name = n) (h1 : (Extern.allGenericRows.lookup n).isNone = true) (h2 : (Extern.allTypedRows.lookup n).isNone = true) {e : Array Value → Sem Value} (h3 : Extern.allRows.lookup n = some e) : Extern.find fn = some e := by
  subst hn
  unfold Extern.find
  simp only [Option.isNone_iff_eq_none] at h1 h2
  simp only [h1, h2, h3, Option.map_none]
  rfl
theorem findNext_of {fn : Func} {n : String} (hn : fn.name = n) (ho : fn.origin = "") (h1 : (Extern.allNextRows.lookup n).isNone = true) : Extern.findNext fn = none := by
  subst hn
  unfold Extern.findNext
  have h2 := fb_rows3.2.2.2.2
  simp only [Option.isNone_iff_eq_none] at h1 h2
  simp only [h1, ho, h2, Option.map_none]
  rfl
theorem run_ext {f : FuncId} {fn : Func} (hf : P.funcs[f]? = some fn) (hb : fn.body.isNone = true) (hg : (fn.name == "runtime.NumGoroutine") = false) (hn : Extern.findNext fn = none) {e : Array Value → Sem Value} (he : Extern.find fn = some e)
    {args : Array Value} {v : Value} {w' : World} (hr : (e args).run P w' = .ok v w') : (callFunc f args).run P w' = .ok (.value v) w' := by
  have hg' : ¬ fn.name = "runtime.NumGoroutine" := by simpa using hg
  have hb' : fn.body = none := by simpa using hb
  unfold callFunc
  simp [hf, hb', hg', hn, he, hr]
theorem fbV_0 {x r : AV} (h : fbV 0 x = some r) : ∃ b : Nat, x = .flt .f64 b ∧ r = .int .u64 (b : Int) := by
  cases x with
  | flt k b => cases k <;> simp [fbV] at h <;> exact ⟨b, rfl, h.symm⟩
  | _ => simp [fbV] at h
theorem fbV_1 {x r : AV} (h : fbV 1 x = some r) : ∃ b : Int, x = .int .u64 b ∧ r = .flt .f64 b.toNat := by
  cases x with
  | int k b => cases k <;> simp [fbV] at h <;> exact ⟨b, rfl, h.symm⟩
  | _ => simp [fbV] at h
theorem fbV_2 {x r : AV} (h : fbV 2 x = some r) : ∃ b : Nat, x = .flt .f32 b ∧ r = .int .u32 (b : Int) := by
  cases x with
  | flt k b => cases k <;> simp [fbV] at h <;> exact ⟨b, rfl, h.symm⟩
  | _ => simp [fbV] at h
theorem fbV_3 {x r : AV} (h : fbV 3 x = some r) : ∃ b : Int, x = .int .u32 b ∧ r = .flt .f32 b.toNat := by
  cases x with
  | int k b => cases k <;> simp [fbV] at h <;> exact ⟨b, rfl, h.symm⟩
  | _ => simp [fbV] at h
theorem runs_fb {f : FuncId} {args : Array Operand} {ats : Array TypeId} {x : Operand} {fn : Func} (ho : o.op = .call ⟨.value (.func f), args, ats⟩) (h1 : args.toList = [x]) (hf : P.funcs[f]? = some fn) {k : Nat} (hk : extOf fn = some k)
    {p : Nat → Pos} {vx r : AV} (hx : TR w G p vx (a.eval x)) (hr : fbV k vx = some r) : ∃ v, CR w G.Fr r v ∧ ∀ w', Runs P o a w' v w' := by
  have hrun : ∀ w', (execOp a.eval o).run P w' = (callFunc f (args.map a.eval)).run P w' := fun w' => by
    simp [execOp, ho, resolve, Act.eval, invoke, Deferred.ofValue]
  obtain rfl := arr1 h1
  have go : ∀ {n : String} {e : Array Value → Sem Value} {v : Value}, fn.name = n → fn.body.isNone = true → fn.origin = "" → (Extern.allGenericRows.lookup n).isNone = true → (Extern.allTypedRows.lookup n).isNone = true → (Extern.allNextRows.lookup n).isNone = true → (n == "runtime.NumGoroutine") = false →
      Extern.allRows.lookup n = some e → (∀ w', (e #[a.eval x]).run P w' = .ok v w') → ∀ w', Runs P o a w' v w' := by
    intro n e v hn hb hor g1 g2 g3 g4 g5 g6 w'
    have := run_ext (P := P) hf hb (by rw [hn]; exact g4) (findNext_of hn hor g3) (find_of hn g1 g2 g5) (g6 w')
    show (execOp a.eval o).run P w' = _
    rw [hrun]
    simpa using this
  unfold extOf at hk
  split at hk
  · rename_i hb
    simp only [Bool.and_eq_true, beq_iff_eq] at hb
    obtain ⟨hb, hor⟩ := hb
    split at hk
    · rename_i hn
      injection hk with hk; subst hk
      obtain ⟨b, rfl, rfl⟩ := fbV_0 hr
      exact ⟨_, .int _ _, go (by simpa using hn) hb hor fb_rows.1 fb_rows2.1 fb_rows3.1 (by decide) fb_row0 (fun w' => by rw [TR_flt hx]; rfl)⟩
    · split at hk
      · rename_i hn
        injection hk with hk; subst hk
        obtain ⟨b, rfl, rfl⟩ := fbV_1 hr
        exact ⟨_, .flt _ _, go (by simpa using hn) hb hor fb_rows.2.1 fb_rows2.2.1 fb_rows3.2.1 (by decide) fb_row1 (fun w' => by rw [TR_int hx]; rfl)⟩
      · split at hk
        · rename_i hn
          injection hk with hk; subst hk
          obtain ⟨b, rfl, rfl⟩ := fbV_2 hr
          exact ⟨_, .int _ _, go (by simpa using hn) hb hor fb_rows.2.2.1 fb_rows2.2.2.1 fb_rows3.2.2.1 (by decide) fb_row2 (fun w' => by rw [TR_flt hx]; rfl)⟩
        · split at hk
          · rename_i hn
            injection hk with hk; subst hk
            obtain ⟨b, rfl, rfl⟩ := fbV_3 hr
            exact ⟨_, .flt _ _, go (by simpa using hn) hb hor fb_rows.2.2.2 fb_rows2.2.2.2 fb_rows3.2.2.2.1 (by decide) fb_row3 (fun w' => by rw [TR_int hx]; rfl)⟩
          · split at hk
            · injection hk with hk; subst hk
              simp [fbV] at hr
            · cases hk
  · cases hk

theorem idx_row : (Extern.allGenericRows.lookup "internal/bytealg.IndexByte").isNone = true ∧ (Extern.allTypedRows.lookup "internal/bytealg.IndexByte").isNone = true ∧ (Extern.allNextRows.lookup "internal/bytealg.IndexByte").isNone = true := by decide +kernel
theorem idx_row0 : Extern.allRows.lookup "internal/bytealg.IndexByte" = some Extern.BytealgIndexByte.indexByte := by kernel_rfl
theorem run_indexByteAt {P : Program} (w : World) (a : Addr) (n c : Nat) (xs : List Int) (hx : xs.length = n) (hc : ∀ j x, xs[j]? = some x → w.cell? (a.add j) = some (.int .u8 x)) (cv : Int) :
    (Extern.BytealgIndexByte.indexByte #[.slice (some a) n c, .int .u8 cv]).run P w = .ok (.int .i64 (Go.Lib.indexByte (Go.Lib.bytesOf xs) cv.toNat.toUInt8)) w := by
  have hl := Go.Lib.run_loadBytesX (P := P) w xs a .empty hc
  rw [hx] at hl
  have hs := Go.Lib.run_indexByteString (P := P) ⟨(Go.Lib.bytesOf xs).toArray⟩ cv w
  have he : (⟨ByteArray.empty.data ++ (Go.Lib.bytesOf xs).toArray⟩ : ByteArray) = ⟨(Go.Lib.bytesOf xs).toArray⟩ := by
    apply ByteArray.ext
    show (#[] : Array UInt8) ++ (Go.Lib.bytesOf xs).toArray = (Go.Lib.bytesOf xs).toArray
    simp
  rw [he] at hl
  change Sem.run P (do
    let b ← Extern.Bytes.bytesOf (.slice (some a) n c)
    let c ← Extern.Bytes.asByte (.int .u8 cv)
    match (List.range b.size).find? fun i => b[i]! == c with
    | some i => pure (goInt i)
    | none => pure (goInt (-1))) w = _
  change Sem.run P (do
    let b ← Extern.Bytes.bytesOf (.string ⟨(Go.Lib.bytesOf xs).toArray⟩)
    let c ← Extern.Bytes.asByte (.int .u8 cv)
    match (List.range b.size).find? fun i => b[i]! == c with
    | some i => pure (goInt i)
    | none => pure (goInt (-1))) w = _ at hs
  simp only [Extern.Bytes.bytesOf, Sem.run_bind, Sem.run_pure, hl, Result.andThen] at hs ⊢
  exact hs
theorem run_ibV {p q : Nat → Pos} {vx vy r : AV} {x y : Value} {st : St} (hx : TR w G p vx x) (hy : TR w G q vy y) (hh : HR w G st.h) (hr : ibV st.h vx vy = some r) :
    ∃ v, CR w G.Fr r v ∧ ∀ w', Pres st.at G w w' → (Extern.BytealgIndexByte.indexByte #[x, y]).run P w' = .ok v w' := by
  unfold ibV at hr
  split at hr
  rotate_left
  · cases hr
  rename_i cb
  split at hr
  · cases hr
  rename_i hown0
  have hown : vx.isOwn = false := by simpa using hown0
  clear hown0
  split at hr
  rotate_left
  · cases hr
  rename_i l hl
  injection hr with hr; subst hr
  refine ⟨_, .int _ _, fun w' hw' => ?_⟩
  rw [TR_int hy]
  unfold cvBS at hl
  split at hl
  · rename_i c e' xs
    split at hl
    · cases hl
    · rename_i hc
      rw [Option.map_eq_some_iff] at hl
      obtain ⟨l', hl', hll⟩ := hl
      injection hll with hll; subst hll
      obtain ⟨ns, rfl, rfl⟩ := bytesOf_int hl'
      have hC := CR_of_TC (TC_of_TR hx rfl) hown
      obtain ⟨oo, n, cap, hv, hn, _⟩ := TR_slice hx
      rw [hv] at hC ⊢
      cases c with
      | nil =>
        have hns : ns = [] := by
          generalize hys : ns.map (AV.int .u8) = ys at hC
          cases hC; simpa using hys
        subst hns
        generalize hys : ([] : List Int).map (AV.int .u8) = ys at hC
        cases hC
        exact Go.Lib.run_indexByteNil w' _ _ _
      | own f => simp [AV.isOwn] at hown
      | hdr => exact absurd rfl hc
      | frz =>
        generalize hys : ns.map (AV.int .u8) = ys at hC
        cases hC with
        | frz _ _ _ _ ad _ vs hsp hz hlen hcap hp hcell hone hcr =>
        subst hys
        have hlen' : ns.length = n := by simpa using hlen
        refine run_indexByteAt w' ad n cap ns hlen' (fun j v hj => ?_) cb
        have hj' : j < ns.length := (List.getElem?_eq_some_iff.1 hj).1
        have h1 := hw'.cell _ _ _ (hp j (by simpa using hj')) (hcell j (by simpa using hj'))
        have h2 := hcr j (by simpa using hj')
        rw [add_off ad (hsp (by simp; omega)), h1]
        have h3 : (ns.map (AV.int .u8))[j]'(by simpa using hj') = .int .u8 ns[j] := by simp
        rw [h3] at h2
        have h4 : vs j = .int .u8 ns[j] := TR_int (p := p) (TR_of_CR h2)
        rw [h4]
        rw [List.getElem?_eq_getElem hj'] at hj
        injection hj with hj; rw [hj]
  · rename_i i' k' e' n'
    simp only [Option.bind_eq_some_iff, Option.map_eq_some_iff] at hl
    obtain ⟨xs, hxs, l', hl', hll⟩ := hl
    injection hll with hll; subst hll
    obtain ⟨ns, rfl, rfl⟩ := bytesOf_int hl'
    obtain ⟨ad, cap, vs, hv, _, _, hlen, hsp, hcell, _, hcr⟩ := hcells_sound hh hx (by rw [Nat.mul_one]; exact hxs)
    have hlen' : ns.length = n' := by simpa using hlen
    rw [hv]
    refine run_indexByteAt w' ad n' cap ns hlen' (fun j v hj => ?_) cb
    have hj' : j < ns.length := (List.getElem?_eq_some_iff.1 hj).1
    have h1 := hcell j (by simpa using hj') w' hw'
    have h2 := hcr j (by simpa using hj')
    rw [add_off ad (hsp (by simp; omega)), h1]
    have h3 : (ns.map (AV.int .u8))[j]'(by simpa using hj') = .int .u8 ns[j] := by simp
    rw [h3] at h2
    have h4 : vs j = .int .u8 ns[j] := TR_int (p := p) (TR_of_CR h2)
    rw [h4]
    rw [List.getElem?_eq_getElem hj'] at hj
    injection hj with hj; rw [hj]
  · cases hl
theorem runs_idxB {f : FuncId} {args : Array Operand} {ats : Array TypeId} {x y : Operand} {fn : Func} (ho : o.op = .call ⟨.value (.func f), args, ats⟩) (h1 : args.toList = [x, y]) (hf : P.funcs[f]? = some fn) (hk : extOf fn = some 4)
    {p q : Nat → Pos} {vx vy r : AV} (hx : TR w G p vx (a.eval x)) (hy : TR w G q vy (a.eval y)) {st : St} (hh : HR w G st.h) (hr : ibV st.h vx vy = some r) : ∃ v, CR w G.Fr r v ∧ ∀ w', Pres st.at G w w' → Runs P o a w' v w' := by
  have hrun : ∀ w', (execOp a.eval o).run P w' = (callFunc f (args.map a.eval)).run P w' := fun w' => by
    simp [execOp, ho, resolve, Act.eval, invoke, Deferred.ofValue]
  obtain rfl := arr2 h1
  obtain ⟨v, hv, hR⟩ := run_ibV (P := P) hx hy hh hr
  refine ⟨v, hv, fun w' hw' => ?_⟩
  unfold extOf at hk
  split at hk
  · rename_i hb
    simp only [Bool.and_eq_true, beq_iff_eq] at hb
    obtain ⟨hb, hor⟩ := hb
    split at hk
    · cases hk
    split at hk
    · cases hk
    split at hk
    · cases hk
    split at hk
    · cases hk
    split at hk
    · rename_i hn
      have hn : fn.name = "internal/bytealg.IndexByte" := by simpa using hn
      have := run_ext (P := P) hf hb (by rw [hn]; decide) (findNext_of hn hor idx_row.2.2) (find_of hn idx_row.1 idx_row.2.1 idx_row0) (hR w' hw')
      show (execOp a.eval o).run P w' = _
      rw [hrun]
      simpa using this
    · cases hk
  · cases hk

theorem intsOf_eq {k : IntKind} : ∀ {xs : List AV} {l : List Int}, intsOf k xs = some l → xs = l.map (AV.int k)
  | [], l, h => by simp [intsOf] at h; subst h; rfl
  | x :: xs, l, h => by
    unfold intsOf at h
    split at h
    · rename_i heq; cases heq
    · rename_i k' n r heq
      injection heq with h1 h2; subst h1; subst h2
      split at h
      · rename_i hk; subst hk
        simp only [Option.map_eq_some_iff] at h
        obtain ⟨l', h3, rfl⟩ := h
        rw [intsOf_eq h3]; rfl
      · cases h
    · cases h
theorem run_eqItems_int (d : Nat) {e : TypeId} {k : IntKind} (hu : P.underlying e = some (.int k)) {N : Nat} {xs ys : Array Value} {f g : Nat → Int} (hx : ∀ i, i < N → xs[i]? = some (.int k (f i))) (hy : ∀ i, i < N → ys[i]? = some (.int k (g i))) (w' : World) :
    ∀ is : List Nat, (∀ i ∈ is, i < N) → (Op.eqItems (d + 1) e 1 xs ys is).run P w' = .ok (is.all fun i => f i == g i) w'
  | [], _ => by simp [Op.eqItems]
  | i :: is, h => by
    have he : P.plainKey e = true := by simp [Program.plainKey, hu]
    have hi := h i List.mem_cons_self
    simp only [Op.eqItems, Nat.mul_one, Sem.run_bind, run_part_plain w' he (hx i hi), run_part_plain w' he (hy i hi), run_equalIn_int w' d e k k _ _ hu, Result.andThen_ok, List.all_cons]
    by_cases hfg : f i = g i
    · have ih := run_eqItems_int d hu hx hy w' is (fun j hj => h j (List.mem_cons_of_mem _ hj))
      simp [hfg, ih]
    · simp [hfg]
theorem runs_eqArr {op : BinOp} {t e yt : TypeId} {x y : Operand} {neg : Bool} (ho : o.op = .binOp op t x y yt) (hop : op = if neg then .neq else .eql) {n sz : Nat} (ht : tarr P t = some (n, e, sz)) {k : IntKind} (hk : tint P e = some k) (hsz : sz = 1) (hg : P.eqGuardType P.depth t = false)
    {p q : Nat → Pos} {vx vy r : AV} (hx : TR w G p vx (a.eval x)) (hy : TR w G q vy (a.eval y)) (hr : eqaV neg n k vx vy = some r) : ∃ v, CR w G.Fr r v ∧ ∀ w', Runs P o a w' v w' := by
  obtain ⟨hu, hs⟩ := tarr_inv ht
  have hui := tint_inv hk
  unfold eqaV at hr
  split at hr
  · rename_i xs ys
    split at hr
    · rename_i hl
      simp only [Option.bind_eq_some_iff, Option.map_eq_some_iff] at hr
      obtain ⟨la, ha, lb, hb, rfl⟩ := hr
      have ea := intsOf_eq ha
      have eb := intsOf_eq hb
      obtain ⟨vs, hvx, hcx⟩ := TR_agg hx
      obtain ⟨us, hvy, hcy⟩ := TR_agg hy
      have cell : ∀ {l : List Int} {zs : List AV} {ws : Array Value}, zs = l.map (AV.int k) → CR w G.Fr (.agg zs) (.agg ws) → ws.size = zs.length ∧ ∀ i, i < zs.length → ws[i]? = some (.int k (l.getD i 0)) := by
        intro l zs ws hz hc
        cases hc with
        | agg _ _ hl hone hrr =>
          refine ⟨hl, fun i hi => ?_⟩
          have h1 := hrr i hi (by omega)
          subst hz
          have hi' : i < l.length := by simpa using hi
          simp only [List.getElem_map] at h1
          generalize hv : ws[i]'(by omega) = v at h1
          cases h1
          rw [Array.getElem?_eq_getElem (by omega), hv]
          simp [List.getD, hi']
      obtain ⟨c1, c2⟩ := cell ea hcx
      obtain ⟨d1, d2⟩ := cell eb hcy
      have lena : la.length = n := by rw [← hl.1, ea]; simp
      have lenb : lb.length = n := by rw [← hl.2, eb]; simp
      have hinfo : ∃ i, P.info? e = some i ∧ i.size = 1 := by obtain ⟨i, h1, h2⟩ := tsize_inv hs; exact ⟨i, h1, by rw [h2, hsz]⟩
      obtain ⟨ii, hii, hi1⟩ := hinfo
      have hco : P.cellsOf e = 1 := by simp [Program.cellsOf, hii, hi1]
      have hall : ((List.range n).all fun i => la.getD i 0 == lb.getD i 0) = (la == lb) := by
        rw [Bool.eq_iff_iff, List.all_eq_true, beq_iff_eq]
        constructor
        · intro h
          refine List.ext_getElem (by omega) fun i h1 h2 => ?_
          have := h i (by simp; omega)
          simpa [List.getD, h1, h2] using this
        · intro h i _; rw [h]; simp
      have heq : ∀ w', (Op.equal t (.agg vs) (.agg us)).run P w' = .ok (la == lb) w' := by
        intro w'
        unfold Op.equal
        have e1 := run_equalIn_array (P := P) w' 9999 vs us hu hii
        have e2 := run_eqItems_int (P := P) 9998 hui (N := n) (xs := vs) (ys := us) (f := fun i => la.getD i 0) (g := fun i => lb.getD i 0) (fun i hi => c2 i (by omega)) (fun i hi => d2 i (by omega)) w' (List.range n) (fun i hi => by simpa using hi)
        rw [hco] at e1
        show (Op.equalIn (9999 + 1) t (.agg vs) (.agg us)).run P w' = _
        rw [e1, e2, hall]
      have hguard : ∀ op w', (eqGuard op t x y (.agg vs) (.agg us)).run P w' = .ok () w' := by
        intro op w'
        unfold eqGuard
        cases op <;> simp [hg]
      refine ⟨_, .bool _, fun w' => ?_⟩
      cases neg with
      | false =>
        simp only [Bool.false_eq_true, if_false] at hop ⊢
        subst hop
        simp only [Runs, execOp, ho, hvx, hvy, Sem.run_bind, hguard, Result.andThen_ok, binOp]
        simp [heq]
      | true =>
        simp only [if_true] at hop ⊢
        subst hop
        simp only [Runs, execOp, ho, hvx, hvy, Sem.run_bind, hguard, Result.andThen_ok, binOp]
        simp [heq]
    · cases hr
  · cases hr
end Go.Proofs.YticoldgiebmmgaaGreatDoor.Abs

/- More operations, in a walk. -/
namespace Go.Proofs.YticoldgiebmmgaaGreatDoor.Abs
set_option linter.all false
set_option linter.unusedVariables false

variable {P : Program} {sg : FuncId → Nat → Nat} {hs : Nat → Nat} {w w' : World} {G G' : Gh} {a : Act} {o : Oper}
variable {w0 : World} {F0 : FT} {A : Nat → Prop} {n : Nat} {st : St} {β : Type}
variable {cl : FuncId → List AV → H → T (AV × H)}

theorem SR.retell (h : SR w0 F0 A n st a w G) {s : K} {ob ob' : Obj} (hs : st.at s = some ob) (hnew : ∀ t, G.at s = some t → ObjR w G s t ob → ObjR w G s t ob') : SR w0 F0 A n (st.setAt s ob') a w G := by
  obtain ⟨t, h1, h2, h3, h4⟩ := h.at hs
  exact h.setBox hs (Ext.refl _ _) rfl rfl (fun p _ _ b hb _ => ⟨rfl, rfl, hb⟩) ⟨t, h1, h2, h3, hnew t h1 h4⟩ h.kept h.mine h.same h.fresh

theorem runs_cap {args : Array Operand} {ats : Array TypeId} {x : Operand} {t : TypeId} (ho : o.op = .call ⟨.builtin .cap, args, ats⟩) (h1 : args.toList = [x]) (h2 : ats.toList = [t]) (hk : tkind P t = some 3)
    {b : Option Addr} {m c : Nat} (hx : a.eval x = .slice b m c) : Runs P o a w (.int .i64 c) w := by
  obtain rfl := arr1 h1
  obtain rfl := arr1 h2
  obtain ⟨e, hu⟩ := tkind_3 hk
  simp [Runs, execOp, ho, resolve, invoke, builtin, Builtin.cap_, hx, run_underlying hu, goInt]

theorem cap_sound (h : SR w0 F0 A n st a w G) {args : Array Operand} {ats : Array TypeId} {x : Operand} {t : TypeId} (ho : o.op = .call ⟨.builtin .cap, args, ats⟩) (h1 : args.toList = [x]) (h2 : ats.toList = [t]) (hk : tkind P t = some 3)
    {p : Nat → Pos} {xv : AV} (hp : TR w G p xv (a.eval x)) {R : AV × St → Prop} (hr : (capV xv st).All R) :
    ∃ v v' st', R (v, st') ∧ SR w0 F0 A n st' a w G ∧ CR w G.Fr v v' ∧ Runs P o a w v' w := by
  unfold capV at hr
  split at hr
  · obtain ⟨_, m, c, hv, hm, hn, _⟩ := TR_slice hp
    obtain ⟨hv', _⟩ := hn rfl
    rw [hv'] at hv
    exact ⟨_, _, st, hr, h, .int _ _, runs_cap (c := 0) ho h1 h2 hk hv'⟩
  · rename_i i k e sz m
    obtain ⟨cap, ad, th, hat, hv, hz, hmc, ha⟩ := TR_hsl hp
    split at hr
    · rename_i e' sz' N xs hg
      split at hr
      · rename_i hc
        obtain ⟨t1, k1, k2, k3, k4⟩ := h.heap.box _ _ hg
        rw [hat] at k1; injection k1 with k1; subst k1
        obtain ⟨_, j2, _, _, ⟨_, j5⟩, _⟩ := k4
        have hN := (ha hc.2).2 j2
        rw [j5 _ rfl] at hN
        have : (N - k) / sz = cap := by rw [← hN, Nat.add_sub_cancel_left, Nat.mul_div_cancel _ hz]
        rw [this] at hr
        exact ⟨_, _, st, hr, h, .int _ _, runs_cap ho h1 h2 hk hv⟩
      · exact hr.elim
    · rename_i e' sz' xs hg
      split at hr
      · rename_i hc
        obtain ⟨t1, k1, k2, k3, k4⟩ := h.heap.box _ _ hg
        rw [hat] at k1; injection k1 with k1; subst k1
        have k4' := k4
        obtain ⟨_, j2, _, hz', ⟨⟨c0, hc0, hc1⟩, _⟩, _⟩ := k4
        have hN := (ha hc.2).2 j2
        obtain ⟨rfl, _⟩ := hc
        have hcap : cap ≤ maxLen := by
          have : cap * sz' ≤ c0 * sz' := by omega
          exact Nat.le_trans (Nat.le_of_mul_le_mul_right this hz) hc1
        have := hr (cap - m) (by omega)
        dsimp only at this
        rw [show m + (cap - m) = cap by omega] at this
        refine ⟨_, _, _, this, ?_, .int _ _, runs_cap ho h1 h2 hk hv⟩
        have hset : (⟨st.s, st.b, st.h.set i (.row e' sz' (some (k + cap * sz')) xs)⟩ : St) = st.setAt (.obj i) (.row e' sz' (some (k + cap * sz')) xs) := rfl
        rw [hset]
        have hs : st.at (.obj i) = some (.row e' sz' none xs) := hg
        refine h.retell hs (fun t hat2 ht => ?_)
        rw [hat] at hat2; injection hat2 with hat2; subst hat2
        obtain ⟨q1, q2, q3, q4, ⟨q5, _⟩, q6⟩ := ht
        refine ⟨q1, q2, q3, q4, ⟨q5, fun N hN' => ?_⟩, q6⟩
        injection hN' with hN'
        rw [← hN', hN]
      · exact hr.elim
    · exact hr.elim
  · exact hr.elim

theorem runs_buildArr {t e : TypeId} {k sz : Nat} {parts : Array (Nat × Operand)} (ho : o.op = .build t parts) (ht : tarr P t = some (k, e, sz)) {i : TypeInfo} {v : Value} (hi : P.info? t = some i) (hv : i.zero = some v)
    {vs' : Array Value} (hf : Instr.fill (fun i => some (i * sz, sz)) v.cells (parts.toList.map fun (i, x) => (i, a.eval x)) = some vs') (w : World) :
    Runs P o a w (.agg vs') w := by
  obtain ⟨hu, hsz⟩ := tarr_inv ht
  have hparts : (parts.map fun (i, x) => (i, a.eval x)).toList = parts.toList.map fun (i, x) => (i, a.eval x) := by simp
  simp only [Runs, execOp, ho, Instr.build, Sem.run_bind, run_zero hi hv, Result.andThen_ok, run_underlying hu, run_sizeOf' hsz, hparts, hf, Sem.run_pure]

/-! ### Runes -/
theorem runesFrom_ints (s : ByteArray) : ∀ (b i : Nat) (acc : Array Value), (∀ v ∈ acc.toList, ∃ n, v = .int .i32 n) → ∀ v ∈ (Conv.runesFrom s b i acc).toList, ∃ n, v = .int .i32 n
  | 0, i, acc, h => by simpa [Conv.runesFrom] using h
  | b + 1, i, acc, h => by
    unfold Conv.runesFrom
    split
    · refine runesFrom_ints s b _ _ fun v hv => ?_
      rw [Array.toList_push] at hv
      rcases List.mem_append.1 hv with hv | hv
      · exact h v hv
      · rw [List.mem_singleton] at hv; exact ⟨_, hv⟩
    · exact h
theorem runesL_get (t : ByteArray) (i : Nat) (h : i < (Conv.runesFrom t t.size 0 #[]).size) : ∃ h' : i < (runesL t.data.toList).length, (Conv.runesFrom t t.size 0 #[])[i] = .int .i32 (runesL t.data.toList)[i] := by
  have e : (⟨t.data.toList.toArray⟩ : ByteArray) = t := by cases t; simp
  have el : t.data.toList.length = t.size := by simp
  have hl : runesL t.data.toList = (Conv.runesFrom t t.size 0 #[]).toList.map runeN := by unfold runesL; rw [e, el]
  have hlen : (runesL t.data.toList).length = (Conv.runesFrom t t.size 0 #[]).size := by rw [hl]; simp
  obtain ⟨n, hn⟩ := runesFrom_ints t t.size 0 #[] (fun v hv => by simp at hv) _ (Array.getElem_mem_toList (xs := Conv.runesFrom t t.size 0 #[]) h)
  refine ⟨by omega, ?_⟩
  simp only [hl, List.getElem_map]
  rw [Array.getElem_toList]
  rw [hn]; rfl
theorem runesL_length (t : ByteArray) : (runesL t.data.toList).length = (Conv.runesFrom t t.size 0 #[]).size := by
  have e : (⟨t.data.toList.toArray⟩ : ByteArray) = t := by cases t; simp
  have el : t.data.toList.length = t.size := by simp
  unfold runesL; rw [e, el]; simp
theorem SR.rowNew (h : SR w0 F0 A n st a w G) (cs : Array Value) (e : TypeId) (m : Nat) :
    ∃ G', SR w0 F0 A n st a (w.drew.alloc (.cells cs e)) G' ∧ G'.Fr w.heap.size = m ∧ G'.β = G.β ∧ Ext w G.Fr (w.drew.alloc (.cells cs e)) G'.Fr ∧ (∀ b, b < w.heap.size → (w.drew.alloc (.cells cs e)).heap[b]? = w.heap[b]?) ∧ (w.drew.alloc (.cells cs e)).heap[w.heap.size]? = some (.cells cs e) := by
  have hold : ∀ b, b < w.heap.size → (w.drew.alloc (.cells cs e)).heap[b]? = w.heap[b]? := fun b hb => heap_old w.drew _ b hb
  have hsz : (w.drew.alloc (.cells cs e)).heap.size = w.heap.size + 1 := by
    have : (w.alloc (.cells cs e)).heap.size = w.heap.size + 1 := by simp
    exact this
  have hk : Kp w (fun _ => False) (w.drew.alloc (.cells cs e)) := ⟨rfl, rfl, rfl, by omega, fun b hb _ => hold b hb⟩
  have hx : Ext w G.Fr (w.drew.alloc (.cells cs e)) (G.Fr.put w.heap.size m) :=
    ⟨fun b => by simp only [FT.put, upd]; split; { rw [h.fresh b (by omega)]; omega }; { exact Nat.le_refl _ }, fun b o v ho hv => by
      have hlt : b < w.heap.size := by
        rcases Nat.lt_or_ge b w.heap.size with h' | h'
        · exact h'
        · rw [h.fresh b h'] at ho; omega
      rw [← hv]; exact World.cell?_of_block (a := ⟨b, o, none⟩) (hold b hlt), fun _ _ h => h, fun b cs' e' h1 h2 => ⟨cs', by rw [hold b (Array.getElem?_eq_some_iff.1 h2).1]; exact h2⟩⟩
  exact ⟨⟨G.Fr.put w.heap.size m, G.β, G.ω⟩, h.world (fun _ => False) (fun _ h => h.elim) hk hx (fun b hb _ => FT.put_ne _ _ _ _ (by omega)) (fun b hb => by
    rw [hsz] at hb; rw [FT.put_ne _ _ _ _ (by omega)]; exact h.fresh b (by omega)) h.heap.ids, FT.put_same _ _ _, rfl, hx, hold, heap_alloc_new w.drew _⟩
theorem SR.runes (h : SR w0 F0 A n st a w G) (e : TypeId) (t : ByteArray) (q : Nat) :
    ∃ G', SR w0 F0 A n st a (w.drew.alloc (.cells (Conv.runesFrom t t.size 0 #[] ++ Array.replicate q (.int .i32 0)) e)) G' ∧
      (∀ cap, (Conv.runesFrom t t.size 0 #[]).size ≤ cap → CR (w.drew.alloc (.cells (Conv.runesFrom t t.size 0 #[] ++ Array.replicate q (.int .i32 0)) e)) G'.Fr (.slice .frz e 1 ((runesL t.data.toList).map (AV.int .i32))) (.slice (some ⟨w.heap.size, 0, none⟩) (Conv.runesFrom t t.size 0 #[]).size cap)) ∧
      G'.β = G.β ∧ Ext w G.Fr (w.drew.alloc (.cells (Conv.runesFrom t t.size 0 #[] ++ Array.replicate q (.int .i32 0)) e)) G'.Fr ∧ (∀ b, b < w.heap.size → (w.drew.alloc (.cells (Conv.runesFrom t t.size 0 #[] ++ Array.replicate q (.int .i32 0)) e)).heap[b]? = w.heap[b]?) := by
  obtain ⟨G', k1, k2, k3, k4, k5, k6⟩ := h.rowNew (Conv.runesFrom t t.size 0 #[] ++ Array.replicate q (.int .i32 0)) e (Conv.runesFrom t t.size 0 #[]).size
  refine ⟨G', k1, fun cap hcap => ?_, k3, k4, k5⟩
  have hl := runesL_length t
  have hl2 : ((runesL t.data.toList).map (AV.int .i32)).length = (Conv.runesFrom t t.size 0 #[]).size := by rw [List.length_map, hl]
  refine .frz e 1 _ cap ⟨w.heap.size, 0, none⟩ _ (fun i => .int .i32 ((runesL t.data.toList).getD i 0)) (fun _ => rfl) (by omega) (by rw [hl2]; omega) hcap (fun i hi => ?_) (fun i hi => ?_) (fun i hi => rfl) (fun i hi => ?_)
  · rw [hl2] at hi; simp only [Nat.zero_add]; rw [k2]; exact hi
  · rw [hl2] at hi
    obtain ⟨h', he⟩ := runesL_get t i hi
    simp only [World.cell?, k6, Nat.zero_add, Option.isSome_none, Bool.false_eq_true, if_false]
    rw [Array.getElem?_append_left hi, Array.getElem?_eq_getElem hi, he]
    simp [List.getD, List.getElem?_eq_getElem h']
  · rw [hl2] at hi
    obtain ⟨h', he⟩ := runesL_get t i hi
    rw [List.getElem_map]
    simp only [List.getD, List.getElem?_eq_getElem h', Option.getD_some]
    exact .int _ _
theorem intsOf_get {k : IntKind} : ∀ {xs : List AV} {ns : List Int}, intsOf k xs = some ns → ns.length = xs.length ∧ ∀ i (h : i < xs.length) (h' : i < ns.length), xs[i] = .int k ns[i]
  | [], ns, h => by simp only [intsOf, Option.some.injEq] at h; subst h; exact ⟨rfl, fun i h => absurd h (by simp)⟩
  | x :: xs, ns, h => by
    cases x with
    | int k' m =>
      simp only [intsOf] at h
      split at h
      · rename_i hk; subst hk
        simp only [Option.map_eq_some_iff] at h
        obtain ⟨ms, hms, rfl⟩ := h
        obtain ⟨h1, h2⟩ := intsOf_get hms
        refine ⟨by simp [h1], fun i h h' => ?_⟩
        cases i with
        | zero => rfl
        | succ i => simpa using h2 i (by simpa using h) (by simpa using h')
      · cases h
    | _ => simp [intsOf] at h
theorem runs_rStr {s d e : TypeId} {sz by' : Nat} {y : Operand} (ho : o.op = .convert s d y) (hs : telem P s = some (e, sz, by')) (he : tint P e = some .i32) (hd : tkind P d = some 2) {p : Nat → Pos} {x r : AV} (hx : TR w G p x (a.eval y)) (hr : rsV x = some r) {bx : K → Option Obj} :
    ∃ v, CR w G.Fr r v ∧ ∀ w', Pres bx G w w' → Runs P o a w' v w' := by
  unfold rsV at hr
  split at hr
  · rename_i e0 xs
    simp only [Option.map_eq_some_iff] at hr
    obtain ⟨ns, hns, rfl⟩ := hr
    obtain ⟨n1, n2⟩ := intsOf_get hns
    have hC : CR w G.Fr (.slice .frz e0 1 xs) (a.eval y) := hx
    generalize hv : a.eval y = vv at hC
    cases hC with
    | frz _ _ m cap ad _ vs hsp hz hl hc hp hcell hone hcr =>
    refine ⟨.string (runesBytes ns), .str _ _ rfl, fun w' hw' => ?_⟩
    have hm : m = ns.length := by omega
    have := run_convert_runes (P := P) w' s d e ad m cap ns (by omega) (telem_inv hs).1 (tint_inv he) (tkind_2 hd) (fun j hj => by
      have hjx : j < xs.length := by omega
      rw [add_off ad (hsp (by omega))]
      have h1 := hw'.cell _ _ _ (hp j hjx) (hcell j hjx)
      have h2 := hcr j hjx
      rw [n2 j hjx hj] at h2
      rw [h1]
      generalize hvj : vs j = vj at h2
      cases h2
      simp [List.getD, List.getElem?_eq_getElem hj])
    rw [hm, List.take_length] at this
    subst hm
    simp only [Runs, execOp, ho, hv, Sem.run_bind, this, Result.andThen_ok, Sem.run_pure]
  · cases hr

theorem early_sound1 {x : AOp} (hx : pOp1 P hs o = some x) (he : x.early = true) (h : SR w0 F0 A n st a w G) {k : AV → St → T β} {R : β → Prop} (hr : (opK cl x st k).All R) :
    ∃ v' v st' G', (k v st').All R ∧ SR w0 F0 A n st' a w G' ∧ (∀ d, o.dst = some d → TR w G' (.slot d) v v') ∧ Stab st.at G w st'.at G' w ∧ ∀ w', ((x.pure = true ∧ Pres (fun _ => none) G' w w') ∨ Pres st'.at G' w w') → Runs P o a w' v' w' := by
  have fin : ∀ {v : AV}, (k v st).All R → (∃ v', (∀ q, TR w G q v v') ∧ ∀ w', Runs P o a w' v' w') →
      ∃ v' v st' G', (k v st').All R ∧ SR w0 F0 A n st' a w G' ∧ (∀ d, o.dst = some d → TR w G' (.slot d) v v') ∧ Stab st.at G w st'.at G' w ∧ ∀ w', ((x.pure = true ∧ Pres (fun _ => none) G' w w') ∨ Pres st'.at G' w w') → Runs P o a w' v' w' :=
    fun hk ⟨v', h1, h2⟩ => ⟨v', _, st, G, hk, h, fun d _ => h1 _, Stab.less (Ext.refl _ _) rfl (Less.refl _), fun w' _ => h2 w'⟩
  have fin' : ∀ {v : AV}, (k v st).All R → (∃ v', CR w G.Fr v v' ∧ ∀ w', Runs P o a w' v' w') →
      ∃ v' v st' G', (k v st').All R ∧ SR w0 F0 A n st' a w G' ∧ (∀ d, o.dst = some d → TR w G' (.slot d) v v') ∧ Stab st.at G w st'.at G' w ∧ ∀ w', ((x.pure = true ∧ Pres (fun _ => none) G' w w') ∨ Pres st'.at G' w w') → Runs P o a w' v' w' :=
    fun hk ⟨v', h1, h2⟩ => fin hk ⟨v', fun q => TR_of_CR h1, h2⟩
  unfold pOp1 at hx
  split at hx
  case h_1 t y i hop =>
    simp only [Option.bind_eq_some_iff, Option.map_eq_some_iff] at hx
    obtain ⟨⟨m, e, sz⟩, hta, ay, hy, ai, hi, rfl⟩ := hx
    simp only [opK, T.All_on, List.map_cons, List.map_nil, xV] at hr
    obtain ⟨v, hv, hr⟩ := hr
    obtain ⟨p, hp⟩ := h.peekX hy
    obtain ⟨q, hq⟩ := h.peekX hi
    exact fin hr (runs_ixArr h hop hta hp hq hv)
  case h_2 t y lo hi hop =>
    simp only [Option.bind_eq_some_iff] at hx
    obtain ⟨⟨m, e, sz⟩, hta, hx⟩ := hx
    split at hx
    · cases hx
    · rename_i hz
      simp only [Option.bind_eq_some_iff, Option.map_eq_some_iff] at hx
      obtain ⟨ay, hy, alo, hlo, ahi, hhi, rfl⟩ := hx
      simp only [opK, T.All_on, List.map_cons, List.map_nil, xV] at hr
      obtain ⟨v, hv, hr⟩ := hr
      obtain ⟨p, hp⟩ := h.peekX hy
      exact fin' hr (runs_slArr h hop hta (Nat.pos_of_ne_zero hz) hlo hhi hp hv)
  case h_3 t y i hop =>
    simp only [Option.bind_eq_some_iff, Option.map_eq_some_iff] at hx
    obtain ⟨⟨m, e, sz⟩, hta, ag, hag, ay, hy, ai, hi, rfl⟩ := hx
    simp only [opK, T.All_on, List.map_cons, List.map_nil, xV] at hr
    obtain ⟨v, hv, hr⟩ := hr
    obtain ⟨p, hp⟩ := h.peekX hy
    obtain ⟨q, hq⟩ := h.peekX hi
    exact fin' hr (runs_ixAgg hop hta hag hp hq hv)
  case h_4 y xt t ok hop =>
    simp only [Option.bind_eq_some_iff] at hx
    obtain ⟨kd, hkd, z, hz, ay, hy, hx⟩ := hx
    obtain ⟨p, hp⟩ := h.peekX hy
    split at hx
    · simp only [Option.map_eq_some_iff] at hx
      obtain ⟨ms, hm, rfl⟩ := hx
      simp only [opK, T.All_on, List.map_cons, List.map_nil, xV] at hr
      obtain ⟨v, hv, hr⟩ := hr
      exact fin hr (runs_tassertI hop hm hz hp hv)
    · rename_i h5
      injection hx with hx; subst hx
      simp only [opK, T.All_on, List.map_cons, List.map_nil, xV] at hr
      obtain ⟨v, hv, hr⟩ := hr
      exact fin hr (runs_tassert hop hkd h5 hz hp hv)
  case h_5 args ats hop =>
    split at hx
    · rename_i y z t u ha hta
      split at hx
      · simp only [Option.bind_eq_some_iff, Option.map_eq_some_iff] at hx
        obtain ⟨ay, hy, az, hz, rfl⟩ := hx
        simp only [opK, T.All_on, List.map_cons, List.map_nil, xV] at hr
        obtain ⟨v, hv, hr⟩ := hr
        obtain ⟨p, hp⟩ := h.peekX hy
        obtain ⟨q, hq⟩ := h.peekX hz
        exact fin' hr (runs_minmax (mx := false) hop ha hp hq hv)
      · cases hx
    · cases hx
  case h_6 args ats hop =>
    split at hx
    · rename_i y z t u ha hta
      split at hx
      · simp only [Option.bind_eq_some_iff, Option.map_eq_some_iff] at hx
        obtain ⟨ay, hy, az, hz, rfl⟩ := hx
        simp only [opK, T.All_on, List.map_cons, List.map_nil, xV] at hr
        obtain ⟨v, hv, hr⟩ := hr
        obtain ⟨p, hp⟩ := h.peekX hy
        obtain ⟨q, hq⟩ := h.peekX hz
        exact fin' hr (runs_minmax (mx := true) hop ha hp hq hv)
      · cases hx
    · cases hx
  case h_7 => simp only [Option.bind_eq_some_iff, Option.map_eq_some_iff] at hx; obtain ⟨_, _, _, _, _, _, rfl⟩ := hx; simp [AOp.early] at he
  case h_8 =>
    split at hx
    · split at hx
      · simp only [Option.map_eq_some_iff] at hx; obtain ⟨_, _, rfl⟩ := hx; simp [AOp.early] at he
      · cases hx
    · cases hx
  case h_9 => simp only [Option.map_eq_some_iff] at hx; obtain ⟨_, _, rfl⟩ := hx; simp [AOp.early] at he
  case h_10 f args ats hop =>
    simp only [Option.bind_eq_some_iff] at hx
    obtain ⟨fn, hf, kk, hk, hx⟩ := hx
    split at hx
    · rename_i y ha
      simp only [Option.map_eq_some_iff] at hx
      obtain ⟨ay, hy, rfl⟩ := hx
      simp only [opK, T.All_on, List.map_cons, List.map_nil, xV] at hr
      obtain ⟨v, hv, hr⟩ := hr
      obtain ⟨p, hp⟩ := h.peekX hy
      exact fin' hr (runs_fb hop ha hf hk hp hv)
    · rename_i y z ha
      split at hx
      · rename_i h4
        subst h4
        simp only [Option.bind_eq_some_iff, Option.map_eq_some_iff] at hx
        obtain ⟨ay, hy, az, hz, rfl⟩ := hx
        simp only [opK, T.All_on, List.map_cons, List.map_nil, xV] at hr
        obtain ⟨v, hv, hr⟩ := hr
        obtain ⟨p, hp⟩ := h.peekX hy
        obtain ⟨q, hq⟩ := h.peekX hz
        obtain ⟨v', h1, h2⟩ := runs_idxB hop ha hf hk hp hq h.heap hv
        exact ⟨v', _, st, G, hr, h, fun d _ => TR_of_CR h1, Stab.less (Ext.refl _ _) rfl (Less.refl _), fun w' hw' => h2 w' (hw'.resolve_left (by simp [AOp.pure]))⟩
      · cases hx
    · cases hx
  case h_11 op t y z yt hop =>
    simp only [Option.bind_eq_some_iff] at hx
    obtain ⟨⟨m, e, sz⟩, hta, kk, hk, hx⟩ := hx
    split at hx
    · rename_i hcond
      split at hx
      · simp only [Option.bind_eq_some_iff, Option.map_eq_some_iff] at hx
        obtain ⟨ay, hy, az, hz, rfl⟩ := hx
        simp only [opK, T.All_on, List.map_cons, List.map_nil, xV] at hr
        obtain ⟨v, hv, hr⟩ := hr
        obtain ⟨p, hp⟩ := h.peekX hy
        obtain ⟨q, hq⟩ := h.peekX hz
        exact fin' hr (runs_eqArr (neg := false) hop rfl hta hk hcond.1 hcond.2 hp hq hv)
      · simp only [Option.bind_eq_some_iff, Option.map_eq_some_iff] at hx
        obtain ⟨ay, hy, az, hz, rfl⟩ := hx
        simp only [opK, T.All_on, List.map_cons, List.map_nil, xV] at hr
        obtain ⟨v, hv, hr⟩ := hr
        obtain ⟨p, hp⟩ := h.peekX hy
        obtain ⟨q, hq⟩ := h.peekX hz
        exact fin' hr (runs_eqArr (neg := true) hop rfl hta hk hcond.1 hcond.2 hp hq hv)
      · cases hx
    · cases hx
  case h_12 s d y hop =>
    split at hx
    · rename_i hs hd
      simp only [Option.bind_eq_some_iff] at hx
      obtain ⟨⟨e, sz, by'⟩, hte, hx⟩ := hx
      split at hx
      · rename_i hc
        simp only [Option.map_eq_some_iff] at hx
        obtain ⟨ay, hy, rfl⟩ := hx
        simp only [opK, T.All_on, List.map_cons, List.map_nil, xV] at hr
        obtain ⟨v, hv, hr⟩ := hr
        obtain ⟨p, hp⟩ := h.peekX hy
        obtain ⟨v', h1, h2⟩ := runs_rStr hop hte hc.2 hd hp hv (bx := st.at)
        exact ⟨v', _, st, G, hr, h, fun d _ => TR_of_CR h1, Stab.less (Ext.refl _ _) rfl (Less.refl _), fun w' hw' => h2 w' (hw'.resolve_left (by simp [AOp.pure]))⟩
      · cases hx
    · rename_i hs hd
      simp only [Option.bind_eq_some_iff] at hx
      obtain ⟨⟨e, sz, by'⟩, hte, hx⟩ := hx
      split at hx
      · simp only [Option.map_eq_some_iff] at hx
        obtain ⟨_, _, rfl⟩ := hx; simp [AOp.early] at he
      · cases hx
    · cases hx
  case h_13 => cases hx

theorem late_sound1 (hcl : CallOk P cl) {x : AOp} (hx : pOp1 P hs o = some x) (he : x.early = false) (h : SR w0 F0 A n st a w G) {k : AV → St → T β} {R : β → Prop} (hr : (opK cl x st k).All R)
    {next : Act → World → Prop} {Q : Exit → Act → World → Prop} (hn : ∀ v' w', Done w0 F0 A n k R a o.dst st G w (x.calm = true) v' w' → next (a.put o.dst v') w') : o.wp P a w next Q := by
  unfold pOp1 at hx
  split at hx
  case h_1 => simp only [Option.bind_eq_some_iff, Option.map_eq_some_iff] at hx; obtain ⟨⟨_, _, _⟩, _, _, _, _, _, rfl⟩ := hx; simp [AOp.early] at he
  case h_2 =>
    simp only [Option.bind_eq_some_iff] at hx; obtain ⟨⟨_, _, _⟩, _, hx⟩ := hx
    split at hx
    · cases hx
    · simp only [Option.bind_eq_some_iff, Option.map_eq_some_iff] at hx; obtain ⟨_, _, _, _, _, _, rfl⟩ := hx; simp [AOp.early] at he
  case h_3 => simp only [Option.bind_eq_some_iff, Option.map_eq_some_iff] at hx; obtain ⟨⟨_, _, _⟩, _, _, _, _, _, _, _, rfl⟩ := hx; simp [AOp.early] at he
  case h_4 =>
    simp only [Option.bind_eq_some_iff] at hx; obtain ⟨_, _, _, _, _, _, hx⟩ := hx
    split at hx
    · simp only [Option.map_eq_some_iff] at hx; obtain ⟨_, _, rfl⟩ := hx; simp [AOp.early] at he
    · injection hx with hx; subst hx; simp [AOp.early] at he
  case h_5 =>
    split at hx
    · split at hx
      · simp only [Option.bind_eq_some_iff, Option.map_eq_some_iff] at hx; obtain ⟨_, _, _, _, rfl⟩ := hx; simp [AOp.early] at he
      · cases hx
    · cases hx
  case h_6 =>
    split at hx
    · split at hx
      · simp only [Option.bind_eq_some_iff, Option.map_eq_some_iff] at hx; obtain ⟨_, _, _, _, rfl⟩ := hx; simp [AOp.early] at he
      · cases hx
    · cases hx
  case h_10 =>
    simp only [Option.bind_eq_some_iff] at hx
    obtain ⟨fn, hf, kk, hk, hx⟩ := hx
    split at hx
    · simp only [Option.map_eq_some_iff] at hx; obtain ⟨_, _, rfl⟩ := hx; simp [AOp.early] at he
    · split at hx
      · simp only [Option.bind_eq_some_iff, Option.map_eq_some_iff] at hx; obtain ⟨_, _, _, _, rfl⟩ := hx; simp [AOp.early] at he
      · cases hx
    · cases hx
  case h_11 =>
    simp only [Option.bind_eq_some_iff] at hx
    obtain ⟨⟨m, e, sz⟩, hta, kk, hk, hx⟩ := hx
    split at hx
    · split at hx
      · simp only [Option.bind_eq_some_iff, Option.map_eq_some_iff] at hx; obtain ⟨_, _, _, _, rfl⟩ := hx; simp [AOp.early] at he
      · simp only [Option.bind_eq_some_iff, Option.map_eq_some_iff] at hx; obtain ⟨_, _, _, _, rfl⟩ := hx; simp [AOp.early] at he
      · cases hx
    · cases hx
  case h_12 s d y hop =>
    split at hx
    · simp only [Option.bind_eq_some_iff] at hx
      obtain ⟨⟨e, sz, by'⟩, hte, hx⟩ := hx
      split at hx
      · simp only [Option.map_eq_some_iff] at hx
        obtain ⟨_, _, rfl⟩ := hx; simp [AOp.early] at he
      · cases hx
    · rename_i hs hd
      simp only [Option.bind_eq_some_iff] at hx
      obtain ⟨⟨e, sz, by'⟩, hte, hx⟩ := hx
      split at hx
      · rename_i hc
        simp only [Option.map_eq_some_iff] at hx
        obtain ⟨ay, hy, rfl⟩ := hx
        simp only [opK, T.All_on] at hr
        obtain ⟨v, hv, hr⟩ := hr
        obtain ⟨p, hp⟩ := h.peekX hy
        unfold cvSR at hv
        split at hv
        · rename_i l hl
          rw [hl] at hp
          obtain ⟨t, ht, htl⟩ := TR_str hp
          split at hv
          · rename_i hle
            injection hv with hv; subst hv
            have hsz := size_runesFrom t t.size 0 #[]
            have htz : t.size = l.length := by rw [← htl]; simp
            have hrun := run_runes_of_string (P := P) w s d e t (tkind_2 hs) (telem_inv hte).1 (tint_inv hc.2) (by simp at hsz; omega)
            obtain ⟨G', k1, k2, k3, k4, k5⟩ := h.runes e t (grownCap w (Conv.runesFrom t t.size 0 #[]).size 0 e - (Conv.runesFrom t t.size 0 #[]).size)
            have k2' := k2 (grownCap w (Conv.runesFrom t t.size 0 #[]).size 0 e) (by have := grownCap_ge w (Conv.runesFrom t t.size 0 #[]).size 0 e; omega)
            rw [htl] at k2'
            have hR : Runs P o a w (.slice (some ⟨w.heap.size, 0, none⟩) (Conv.runesFrom t t.size 0 #[]).size (grownCap w (Conv.runesFrom t t.size 0 #[]).size 0 e)) (w.drew.alloc (.cells (Conv.runesFrom t t.size 0 #[] ++ Array.replicate (grownCap w (Conv.runesFrom t t.size 0 #[]).size 0 e - (Conv.runesFrom t t.size 0 #[]).size) (.int .i32 0)) e)) := by
              simp only [Runs, execOp, hop, ht, Sem.run_bind, hrun, Result.andThen_ok, Sem.run_pure]
            refine hR.wp (hn _ _ ⟨_, _, G', hr, k1, fun d _ => TR_of_CR k2', fun _ => ⟨k4, fun s t ht => by rw [k3]; exact ht, fun _ h => h, fun s ob t' hs hg => ?_⟩⟩)
            obtain ⟨g', j1, j2, j3, j4⟩ := h.at hs
            rw [hg] at j1; injection j1 with j1; subst j1
            exact k5 t'.b j3
          · cases hv
        · cases hv
      · cases hx
    · cases hx
  case h_13 => cases hx
  case h_7 t parts hop =>
    simp only [Option.bind_eq_some_iff, Option.map_eq_some_iff] at hx
    obtain ⟨⟨m, e, sz⟩, hta, z, hz, ps, hps, rfl⟩ := hx
    obtain ⟨i, v, hi, hiz, hof⟩ := tzero_inv hz
    have hrow := cells_RowR (ofConst_CR (w := w) (Fr := G.Fr) hof)
    simp only [opK] at hr
    obtain ⟨cs', vs', st', G', e1, e2, e3, e4, e6, e7, e8, e5⟩ := fill_sound hps hr h hrow
    exact (runs_buildArr hop hta hi hiz e5 w).wp (hn _ _ ⟨_, _, G', e1, e2, fun d _ => TR_of_CR (.agg _ _ e3.1 (fun i hi => (e3.2 i (by rw [← e3.1]; exact hi) hi).1) (fun i hi hi' => (e3.2 i hi hi').2)), fun _ => Stab.less e7 e6 e8⟩)
  case h_8 args ats hop =>
    split at hx
    · rename_i y t ha hta
      split at hx
      · rename_i hk
        simp only [Option.map_eq_some_iff] at hx
        obtain ⟨ay, hy, rfl⟩ := hx
        simp only [opK, T.All_bind] at hr
        obtain ⟨G1, g1, c1, b1, e1, t1⟩ := h.giveX hy
        have hsev : (give st ay).1.several = false := by
          cases hg : (give st ay).1 with
          | tup xs => rw [hg] at hr; exact hr.elim
          | _ => rfl
        obtain ⟨v, v', st', h1, h2, h3, h4⟩ := cap_sound g1 hop ha hta hk (t1 hsev (fun _ => .mid)) hr
        exact h4.wp (hn _ _ ⟨v, st', G1, h1, h2, fun d _ => TR_of_CR h3, fun hc => by simp [AOp.calm] at hc⟩)
      · cases hx
    · cases hx
  case h_9 f args ats hop =>
    simp only [Option.map_eq_some_iff] at hx
    obtain ⟨ps, hps, rfl⟩ := hx
    simp only [opK] at hr
    obtain ⟨vs, st', G1, e1, e2, e3, e4, e5, e6, e7, e8, e9⟩ := args_sound hps hr h
    simp only [T.All_on] at e1
    obtain ⟨⟨g, vs2⟩, hd, e1⟩ := e1
    obtain ⟨pf, hpf⟩ := h.peekX (x := .tmp f) (ax := .p f) (own := false) rfl
    unfold dTarget at hd
    split at hd
    · rename_i hpk
      injection hd with hd; injection hd with hd1 hd2; subst hd2
      rw [hpk] at hpf
      have hfe := TR_fn hpf
      rw [hd1] at hfe
      have hrun : (execOp a.eval o).run P w = (callFunc g (args.map a.eval)).run P w := by
        simp only [execOp, hop, resolve, hfe]
        simp [invoke, Deferred.ofValue]
      cases hh3 : (hsOf hs o.dst == 3) with
      | true =>
        rw [hh3] at e1
        simp only [T.All_bind] at e1
        have main : ∀ {v : AV × H} {e : Ending} {w'' : World}, (k v.1 ⟨st'.s, st'.b, v.2⟩).All R → CallPost w G1.Fr (outOwn G1.ω) v e w'' → ∃ v', e = .returned v' ∧ next (a.put o.dst v') w'' := by
          intro v e w'' hk hp
          obtain ⟨v', G', he', hS, hT⟩ := e2.called hp o.dst
          subst he'
          exact ⟨v', rfl, hn _ _ ⟨v.1, _, G', hk, hS, fun d hd => by rw [← slotAt_eq hd]; exact hT, fun hc => by simp [AOp.calm] at hc⟩⟩
        unfold Oper.wp
        rw [hrun]
        rcases hcl g vs st'.h _ e1 w G1 (args.map a.eval) (by simp [e3]) (fun i hi hi' => by
          have := e4 i hi (by rw [← e3]; exact hi)
          simpa using this) e2.heap (fun b hb => (e2.mine b (fun e => by unfold outOwn at hb; rw [e] at hb; cases hb)).1) e2.fresh with ⟨v1, w1, r0, r1, hk, r2⟩ | ⟨g', r1, r2⟩
        · rw [r1]
          obtain ⟨v', e', hh⟩ := main hk r2
          injection e' with e'; subst e'
          exact hh
        · rw [r1, Oper.upon_enter]
          refine Calls.mono r2 (fun e w'' ⟨r0, hk, hp⟩ => ?_)
          obtain ⟨v', he', hh⟩ := main hk hp
          subst he'; exact hh
      | false =>
        rw [hh3] at e1
        simp only [T.All_bind, T.All_on] at e1
        have main : ∀ {r0 : AV × H} {e : Ending} {w'' : World}, (∃ v, noHeap st'.h.n r0 = some v ∧ (k v st').All R) → CallPost w G1.Fr (outOwn G1.bare.ω) r0 e w'' → ∃ v', e = .returned v' ∧ next (a.put o.dst v') w'' := by
          intro r0 e w'' ⟨v, hnh, hk⟩ hp
          obtain ⟨v', G', he', hS, hT, hSt⟩ := e2.calledP hnh hp o.dst
          subst he'
          exact ⟨v', rfl, hn _ _ ⟨v, st', G', hk, hS, fun d hd => by rw [← slotAt_eq hd]; exact hT, fun hc => by simp [AOp.calm] at hc⟩⟩
        unfold Oper.wp
        rw [hrun]
        rcases hcl g vs st'.h.mask _ e1 w G1.bare (args.map a.eval) (by simp [e3]) (fun i hi hi' => by
          have := e4 i hi (by rw [← e3]; exact hi)
          simp only [Nat.zero_add] at this
          exact ⟨by simpa using this.1.bare, this.2⟩) e2.heap.mask (fun b hb => by
            obtain ⟨i, hi⟩ := Gh.bare_out.1 hb
            exact (e2.mine b (by rw [hi]; simp)).1) e2.fresh with ⟨v1, w1, r0, r1, hk, r2⟩ | ⟨g', r1, r2⟩
        · rw [r1]
          obtain ⟨v', e', hh⟩ := main hk r2
          injection e' with e'; subst e'
          exact hh
        · rw [r1, Oper.upon_enter]
          refine Calls.mono r2 (fun e w'' ⟨r0, hk, hp⟩ => ?_)
          obtain ⟨v', he', hh⟩ := main hk hp
          subst he'; exact hh
    · rename_i hnn _; cases hnn
    · cases hd

theorem early_soundA (all : List Oper) {x : AOp} (hx : pOpA P sg hs all o = some x) (he : x.early = true) (h : SR w0 F0 A n st a w G) {k : AV → St → T β} {R : β → Prop} (hr : (opK cl x st k).All R) :
    ∃ v' v st' G', (k v st').All R ∧ SR w0 F0 A n st' a w G' ∧ (∀ d, o.dst = some d → TR w G' (.slot d) v v') ∧ Stab st.at G w st'.at G' w ∧ ∀ w', ((x.pure = true ∧ Pres (fun _ => none) G' w w') ∨ Pres st'.at G' w w') → Runs P o a w' v' w' := by
  unfold pOpA at hx
  split at hx
  · rename_i y hy
    injection hx with hx; subst hx
    exact early_sound1 hy he h hr
  · exact early_sound cl all hx he h hr

theorem late_soundA (hcl : CallOk P cl) (all : List Oper) {x : AOp} (hx : pOpA P sg hs all o = some x) (he : x.early = false) (h : SR w0 F0 A n st a w G) {k : AV → St → T β} {R : β → Prop} (hr : (opK cl x st k).All R)
    {next : Act → World → Prop} {Q : Exit → Act → World → Prop} (hn : ∀ v' w', Done w0 F0 A n k R a o.dst st G w (x.calm = true) v' w' → next (a.put o.dst v') w') : o.wp P a w next Q := by
  unfold pOpA at hx
  split at hx
  · rename_i y hy
    injection hx with hx; subst hx
    exact late_sound1 hcl hy he h hr hn
  · exact late_sound hcl all hx he h hr hn

theorem op_soundA (hcl : CallOk P cl) (all : List Oper) {x : AOp} (hx : pOpA P sg hs all o = some x) (h : SR w0 F0 A n st a w G) {k : AV → St → T β} {R : β → Prop} (hr : (opK cl x st k).All R)
    {next : Act → World → Prop} {Q : Exit → Act → World → Prop} (hn : ∀ v' w', Done w0 F0 A n k R a o.dst st G w (x.early = true ∨ x.calm = true) v' w' → next (a.put o.dst v') w') : o.wp P a w next Q := by
  cases he : x.early with
  | true =>
    obtain ⟨v', v, st', G', h1, h2, h3, h4, hR⟩ := early_soundA all hx he h hr
    exact (hR w (.inr (Pres.refl _ _ _))).wp (hn _ _ ⟨v, st', G', h1, h2, h3, fun _ => h4⟩)
  | false =>
    refine late_soundA hcl all hx he h hr fun v' w' ⟨v, st', G', h1, h2, h3, h4⟩ => hn _ _ ⟨v, st', G', h1, h2, h3, fun hc => h4 ?_⟩
    rcases hc with hc | hc
    · rw [he] at hc; cases hc
    · exact hc

end Go.Proofs.YticoldgiebmmgaaGreatDoor.Abs

/- Operations that touch no box: what they read and write are their slots. -/
namespace Go.Proofs.YticoldgiebmmgaaGreatDoor.Abs
set_option linter.all false

structure Fram (L : List Nat) (st st' st2 st2' : St) : Prop where
  b1 : st'.b = st.b
  b2 : st2'.b = st2.b
  o1 : ∀ m, m ∉ L → st'.s m = st.s m
  o2 : ∀ m, m ∉ L → st2'.s m = st2.s m
  ag : ∀ m, m ∈ L → st2'.s m = st'.s m
  h1 : st'.h = st.h
  h2 : st2'.h = st2.h

theorem Fram.refl {L : List Nat} {st st2 : St} (h : ∀ m, m ∈ L → st2.s m = st.s m) : Fram L st st st2 st2 := ⟨rfl, rfl, fun _ _ => rfl, fun _ _ => rfl, h, rfl, rfl⟩
theorem Fram.trans {L : List Nat} {a b c a2 b2 c2 : St} (h : Fram L a b a2 b2) (k : Fram L b c b2 c2) : Fram L a c a2 c2 :=
  ⟨k.b1.trans h.b1, k.b2.trans h.b2, fun m hm => (k.o1 m hm).trans (h.o1 m hm), fun m hm => (k.o2 m hm).trans (h.o2 m hm), k.ag, k.h1.trans h.h1, k.h2.trans h.h2⟩
theorem Fram.set {L : List Nat} {st st2 : St} {n : Nat} (hn : n ∈ L) (h : ∀ m, m ∈ L → st2.s m = st.s m) (v : AV) : Fram L st (st.set n v) st2 (st2.set n v) := by
  refine ⟨rfl, rfl, fun m hm => ?_, fun m hm => ?_, fun m hm => ?_, rfl, rfl⟩
  · exact upd_ne _ _ _ _ (fun e => hm (e ▸ hn))
  · exact upd_ne _ _ _ _ (fun e => hm (e ▸ hn))
  · simp only [St.set, upd]; split; { rfl }; { exact h m hm }

section
variable {L : List Nat} {st st2 : St} {x : AX}

theorem peek_fram (hx : ∀ n ∈ x.slots, n ∈ L) (h : ∀ m, m ∈ L → st2.s m = st.s m) : peek st2 x = peek st x := by
  cases x with
  | t n => simp only [peek]; rw [h n (hx n (by simp [AX.slots]))]
  | m n => simp only [peek]; rw [h n (hx n (by simp [AX.slots]))]
  | u n => simp only [peek]; rw [h n (hx n (by simp [AX.slots]))]
  | f n => simp only [peek]; rw [h n (hx n (by simp [AX.slots]))]
  | p n => simp only [peek]; rw [h n (hx n (by simp [AX.slots]))]
  | c v => rfl

theorem give_fram (hw : x.still = true) (hx : ∀ n ∈ x.slots, n ∈ L) (h : ∀ m, m ∈ L → st2.s m = st.s m) : (give st2 x).1 = (give st x).1 ∧ Fram L st (give st x).2 st2 (give st2 x).2 := by
  cases x with
  | t n =>
    have e := h n (hx n (by simp [AX.slots]))
    simp only [give]; rw [e]
    exact ⟨rfl, Fram.set (hx n (by simp [AX.slots])) h _⟩
  | p n => simp only [give]; rw [h n (hx n (by simp [AX.slots]))]; exact ⟨rfl, Fram.refl h⟩
  | c v => exact ⟨rfl, Fram.refl h⟩
  | m n => cases hw
  | u n => cases hw
  | f n => cases hw

theorem take_fram (hw : x.still = true) (hx : ∀ n ∈ x.slots, n ∈ L) (h : ∀ m, m ∈ L → st2.s m = st.s m) : (take st2 x).1 = (take st x).1 ∧ Fram L st (take st x).2 st2 (take st2 x).2 := by
  cases x with
  | t n =>
    have e := h n (hx n (by simp [AX.slots]))
    simp only [take]; rw [e]
    exact ⟨rfl, Fram.set (hx n (by simp [AX.slots])) h _⟩
  | p n => simp only [take]; rw [h n (hx n (by simp [AX.slots]))]; exact ⟨rfl, Fram.refl h⟩
  | c v => exact ⟨rfl, Fram.refl h⟩
  | m n => cases hw
  | u n => cases hw
  | f n => cases hw

theorem copy_fram (m : Mode) (hw : x.still = true) (hx : ∀ n ∈ x.slots, n ∈ L) (h : ∀ m, m ∈ L → st2.s m = st.s m) : (copy m st2 x).1 = (copy m st x).1 ∧ Fram L st (copy m st x).2 st2 (copy m st2 x).2 := by
  cases x with
  | t n =>
    have e := h n (hx n (by simp [AX.slots]))
    simp only [copy]; rw [e]
    exact ⟨rfl, Fram.set (hx n (by simp [AX.slots])) h _⟩
  | p n => simp only [copy]; rw [h n (hx n (by simp [AX.slots]))]; exact ⟨rfl, Fram.refl h⟩
  | c v => exact ⟨rfl, Fram.refl h⟩
  | m n => cases hw
  | u n => cases hw
  | f n => cases hw
end

theorem fillK_fram {L : List Nat} : ∀ {l : List (Nat × Nat × AX)} {cs : List AV} {st : St}, (∀ q ∈ l, q.2.2.still = true ∧ ∀ n ∈ q.2.2.slots, n ∈ L) →
    ∃ o st', (∀ {γ : Type} (k' : List AV → St → T γ), fillK l cs st k' = T.on o fun cs' => k' cs' st') ∧
      ∀ st2 : St, (∀ m, m ∈ L → st2.s m = st.s m) → ∃ st2', Fram L st st' st2 st2' ∧ ∀ {γ : Type} (k' : List AV → St → T γ), fillK l cs st2 k' = T.on o fun cs' => k' cs' st2'
  | [], cs, st, _ => ⟨some cs, st, fun _ => rfl, fun st2 h => ⟨st2, Fram.refl h, fun _ => rfl⟩⟩
  | (off, n, x) :: l, cs, st, hl => by
    have f0 : ∀ {st2 : St}, (∀ m, m ∈ L → st2.s m = st.s m) → _ := fun {st2} h => give_fram (st2 := st2) (hl _ List.mem_cons_self).1 (hl _ List.mem_cons_self).2 h
    cases h1 : fillV cs off n (give st x).1 with
    | none => exact ⟨none, st, fun k' => by simp only [fillK, h1, T.on], fun st2 h => ⟨st2, Fram.refl h, fun k' => by simp only [fillK, (f0 h).1, h1, T.on]⟩⟩
    | some cs1 =>
      obtain ⟨o, st', g3, g4⟩ := fillK_fram (cs := cs1) (st := (give st x).2) (fun q hq => hl q (List.mem_cons_of_mem _ hq))
      refine ⟨o, st', fun k' => by simp only [fillK, h1]; exact g3 k', fun st2 h => ?_⟩
      obtain ⟨e1, f1⟩ := f0 h
      obtain ⟨st2', g5, g6⟩ := g4 _ f1.ag
      exact ⟨st2', f1.trans g5, fun k' => by simp only [fillK, e1, h1]; exact g6 k'⟩

theorem argsK_fram {L : List Nat} : ∀ {l : List (AX × Bool)} {st : St}, (∀ q ∈ l, q.1.still = true ∧ ∀ n ∈ q.1.slots, n ∈ L) →
    ∃ o st', (∀ {γ : Type} (k' : List AV → St → T γ), argsK l st k' = T.on o fun vs => k' vs st') ∧
      ∀ st2 : St, (∀ m, m ∈ L → st2.s m = st.s m) → ∃ st2', Fram L st st' st2 st2' ∧ ∀ {γ : Type} (k' : List AV → St → T γ), argsK l st2 k' = T.on o fun vs => k' vs st2'
  | [], st, _ => ⟨some [], st, fun _ => rfl, fun st2 h => ⟨st2, Fram.refl h, fun _ => rfl⟩⟩
  | (x, true) :: l, st, hl => by
    have f0 : ∀ {st2 : St}, (∀ m, m ∈ L → st2.s m = st.s m) → _ := fun {st2} h => take_fram (st2 := st2) (hl _ List.mem_cons_self).1 (hl _ List.mem_cons_self).2 h
    cases h1 : pln (take st x).1 with
    | none => exact ⟨none, st, fun k' => by simp only [argsK, h1, T.on], fun st2 h => ⟨st2, Fram.refl h, fun k' => by simp only [argsK, (f0 h).1, h1, T.on]⟩⟩
    | some u =>
      obtain ⟨o, st', g3, g4⟩ := argsK_fram (st := (take st x).2) (fun q hq => hl q (List.mem_cons_of_mem _ hq))
      refine ⟨o.map fun vs => (take st x).1 :: vs, st', fun k' => ?_, fun st2 h => ?_⟩
      · simp only [argsK, h1]; rw [T.on, g3]; cases o <;> rfl
      · obtain ⟨e1, f1⟩ := f0 h
        obtain ⟨st2', g5, g6⟩ := g4 _ f1.ag
        refine ⟨st2', f1.trans g5, fun k' => ?_⟩
        simp only [argsK, e1, h1]; rw [T.on, g6]; cases o <;> rfl
  | (x, false) :: l, st, hl => by
    have f0 : ∀ {st2 : St}, (∀ m, m ∈ L → st2.s m = st.s m) → _ := fun {st2} h => give_fram (st2 := st2) (hl _ List.mem_cons_self).1 (hl _ List.mem_cons_self).2 h
    cases h1 : pln (give st x).1 with
    | none => exact ⟨none, st, fun k' => by simp only [argsK, h1, T.on], fun st2 h => ⟨st2, Fram.refl h, fun k' => by simp only [argsK, (f0 h).1, h1, T.on]⟩⟩
    | some u =>
      obtain ⟨o, st', g3, g4⟩ := argsK_fram (st := (give st x).2) (fun q hq => hl q (List.mem_cons_of_mem _ hq))
      refine ⟨o.map fun vs => (give st x).1 :: vs, st', fun k' => ?_, fun st2 h => ?_⟩
      · simp only [argsK, h1]; rw [T.on, g3]; cases o <;> rfl
      · obtain ⟨e1, f1⟩ := f0 h
        obtain ⟨st2', g5, g6⟩ := g4 _ f1.ag
        refine ⟨st2', f1.trans g5, fun k' => ?_⟩
        simp only [argsK, e1, h1]; rw [T.on, g6]; cases o <;> rfl

theorem on_bind {α β : Type} (o : Option α) (f : α → T β) : T.on o f = (T.ofO o).bind f := by cases o <;> rfl
theorem bind_bind {α β γ : Type} (f : α → T β) (g : β → T γ) : ∀ x : T α, (x.bind f).bind g = x.bind fun a => (f a).bind g
  | .ret _ => rfl
  | .fail => rfl
  | .pick n k => by simp only [T.bind]; congr 1; funext d; exact bind_bind f g (k d)
theorem on_bind2 {α β γ : Type} (o : Option α) (f : α → T β) (g : β → T γ) : (T.on o f).bind g = T.on o fun a => (f a).bind g := by cases o <;> rfl

theorem opK_fram {cl : FuncId → List AV → H → T (AV × H)} {L F : List Nat} {x : AOp} (hw : x.still = true) (hf : x.foot = some F) (hL : ∀ n ∈ F, n ∈ L) (st : St) :
    ∃ (t : T AV) (st' : St), (∀ {γ : Type} (k' : AV → St → T γ), opK cl x st k' = t.bind fun v => k' v st') ∧
      ∀ st2 : St, (∀ m, m ∈ L → st2.s m = st.s m) → st2.h = st.h → ∃ st2', Fram L st st' st2 st2' ∧ ∀ {γ : Type} (k' : AV → St → T γ), opK cl x st2 k' = t.bind fun v => k' v st2' := by
  by_cases hpx : ∃ o args, x = .px o args
  · obtain ⟨o, args, rfl⟩ := hpx
    have hfo : F = args.flatMap AX.slots := by
      cases o <;> simp [AOp.foot] at hf <;> exact hf.symm
    subst hfo
    refine ⟨_, _, fun k' => by simp only [opK]; rw [on_bind], fun st2 h hh => ?_⟩
    have e1 : args.map (peek st2) = args.map (peek st) := List.map_congr_left fun y hy => peek_fram (fun n hn => hL n (List.mem_flatMap.2 ⟨y, hy, hn⟩)) h
    exact ⟨_, Fram.refl h, fun k' => by simp only [opK, e1, hh]; rw [on_bind]⟩
  by_cases hmk : ∃ o e sz b z y1 y2, x = AOp.mkSl o e sz b z y1 y2
  · obtain ⟨obj, e, sz, by', z, x, y, rfl⟩ := hmk
    clear hpx
    cases obj with
    | true => simp [AOp.foot] at hf
    | false =>
      simp only [AOp.foot, Option.some.injEq] at hf; subst hf
      have em : ∀ s : St, mkV false e sz by' z (peek s x) (peek s y) s = ((mkN by' (peek s x) (peek s y)).map fun q => AV.slice (.own true) e sz (repCells q.1 z)).map fun v => (v, s) := fun s => by
        unfold mkV; cases mkN by' (peek s x) (peek s y) <;> rfl
      have eo : ∀ {γ : Type} (s : St) (k' : AV → St → T γ), opK cl (.mkSl false e sz by' z x y) s k' = (T.ofO ((mkN by' (peek s x) (peek s y)).map fun q => AV.slice (.own true) e sz (repCells q.1 z))).bind fun v => k' v s := fun s k' => by
        simp only [opK]; rw [em]; cases mkN by' (peek s x) (peek s y) <;> rfl
      refine ⟨_, _, fun k' => eo st k', fun st2 h hh => ?_⟩
      have e1 := peek_fram (x := x) (fun n hn => hL n (List.mem_append_left _ hn)) h
      have e2 := peek_fram (x := y) (fun n hn => hL n (List.mem_append_right _ hn)) h
      exact ⟨_, Fram.refl h, fun k' => by rw [eo, e1, e2]⟩
  cases x <;> (try exact absurd ⟨_, _, rfl⟩ hpx) <;> (try exact absurd ⟨_, _, _, _, _, _, _, rfl⟩ hmk) <;> simp only [AOp.foot, Option.some.injEq, reduceCtorEq] at hf <;> subst hf
  case move m x =>
    refine ⟨.ret _, _, fun _ => rfl, fun st2 h hh => ?_⟩
    obtain ⟨e1, f1⟩ := copy_fram m hw hL h
    exact ⟨_, f1, fun k' => by simp only [opK, e1]; rfl⟩
  case assign x =>
    refine ⟨.ret _, _, fun _ => rfl, fun st2 h hh => ?_⟩
    obtain ⟨e1, f1⟩ := take_fram hw hL h
    exact ⟨_, f1, fun k' => by simp only [opK, e1]; rfl⟩
  case build z parts =>
    obtain ⟨o, st', g3, g4⟩ := fillK_fram (L := L) (cs := z) (st := st) (fun q hq => ⟨List.all_eq_true.1 hw q hq, fun n hn => hL n (List.mem_flatMap.2 ⟨q, hq, hn⟩)⟩)
    refine ⟨T.on o fun cs => .ret (.agg cs), st', fun k' => ?_, fun st2 h hh => ?_⟩
    · simp only [opK]; rw [g3, on_bind2]; rfl
    · obtain ⟨st2', g5, g6⟩ := g4 st2 h
      exact ⟨st2', g5, fun k' => by simp only [opK]; rw [g6, on_bind2]; rfl⟩
  case buildSl e sz z parts =>
    obtain ⟨o, st', g3, g4⟩ := fillK_fram (L := L) (cs := z) (st := st) (fun q hq => ⟨List.all_eq_true.1 hw q hq, fun n hn => hL n (List.mem_flatMap.2 ⟨q, hq, hn⟩)⟩)
    refine ⟨T.on o fun cs => .ret (.slice (.own true) e sz cs), st', fun k' => ?_, fun st2 h hh => ?_⟩
    · simp only [opK]; rw [g3, on_bind2]; rfl
    · obtain ⟨st2', g5, g6⟩ := g4 st2 h
      exact ⟨st2', g5, fun k' => by simp only [opK]; rw [g6, on_bind2]; rfl⟩
  case call f args =>
    obtain ⟨o, st', g3, g4⟩ := argsK_fram (L := L) (st := st) (fun q hq => ⟨List.all_eq_true.1 hw q hq, fun n hn => hL n (List.mem_flatMap.2 ⟨q, hq, hn⟩)⟩)
    refine ⟨T.on o fun vs => (cl f vs st'.h.mask).bind fun q => T.on (noHeap st'.h.n q) .ret, st', fun k' => ?_, fun st2 h hh => ?_⟩
    · simp only [opK]; rw [g3, on_bind2]; congr 1; funext vs; rw [bind_bind]; congr 1; funext q; rw [on_bind2]; rfl
    · obtain ⟨st2', g5, g6⟩ := g4 st2 h
      have e : st2'.h = st'.h := by rw [g5.h1, g5.h2, hh]
      refine ⟨st2', g5, fun k' => ?_⟩
      simp only [opK]; rw [g6, on_bind2, e]; congr 1; funext vs; rw [bind_bind]; congr 1; funext q; rw [on_bind2]; rfl
  case convBS x =>
    refine ⟨_, _, fun k' => by simp only [opK]; rw [on_bind], fun st2 h hh => ?_⟩
    obtain ⟨e1, f1⟩ := give_fram hw hL h
    have e : (give st2 x).2.h = (give st x).2.h := by rw [f1.h1, f1.h2, hh]
    exact ⟨_, f1, fun k' => by simp only [opK, e, e1]; rw [on_bind]⟩
  case mkIface t x =>
    refine ⟨_, _, fun k' => by simp only [opK]; rw [on_bind], fun st2 h hh => ?_⟩
    obtain ⟨e1, f1⟩ := give_fram hw hL h
    exact ⟨_, f1, fun k' => by simp only [opK, e1]; rw [on_bind]⟩
  case append e sz by' str x y =>
    have hLx : ∀ n ∈ x.slots, n ∈ L := fun n hn => hL n (List.mem_append_left _ hn)
    have hLy : ∀ n ∈ y.slots, n ∈ L := fun n hn => hL n (List.mem_append_right _ hn)
    refine ⟨_, _, fun k' => by simp only [opK]; rw [on_bind], fun st2 h hh => ?_⟩
    obtain ⟨e1, f1⟩ := take_fram hw hLx h
    have e2 := peek_fram hLy h
    have e : (take st2 x).2.h = (take st x).2.h := by rw [f1.h1, f1.h2, hh]
    exact ⟨_, f1, fun k' => by simp only [opK, e, e1, e2]; rw [on_bind]⟩
  case bin op kd lit x y =>
    refine ⟨_, _, fun k' => by simp only [opK]; rw [on_bind], fun st2 h hh => ?_⟩
    have e1 := peek_fram (x := x) (fun n hn => hL n (List.mem_append_left _ hn)) h
    have e2 := peek_fram (x := y) (fun n hn => hL n (List.mem_append_right _ hn)) h
    exact ⟨_, Fram.refl h, fun k' => by simp only [opK, e1, e2]; rw [on_bind]⟩
  case extract t i =>
    refine ⟨T.ofO ((exV (st.s t) i).map (·.1)), (match exV (st.s t) i with | some q => st.set t q.2 | none => st), fun k' => ?_, fun st2 h hh => ?_⟩
    · simp only [opK]; cases exV (st.s t) i <;> rfl
    · have e := h t (hL t (by simp))
      cases hq : exV (st.s t) i with
      | none => exact ⟨st2, Fram.refl h, fun k' => by simp only [opK, e, hq]; rfl⟩
      | some q => exact ⟨st2.set t q.2, Fram.set (hL t (by simp)) h _, fun k' => by simp only [opK, e, hq]; rfl⟩
  case indexStr x y =>
    refine ⟨_, _, fun k' => by simp only [opK]; rw [on_bind], fun st2 h hh => ?_⟩
    have e1 := peek_fram (x := x) (fun n hn => hL n (List.mem_append_left _ hn)) h
    have e2 := peek_fram (x := y) (fun n hn => hL n (List.mem_append_right _ hn)) h
    exact ⟨_, Fram.refl h, fun k' => by simp only [opK, e1, e2]; rw [on_bind]⟩
  all_goals
    rename_i x
    refine ⟨_, _, fun k' => by simp only [opK]; rw [on_bind], fun st2 h hh => ?_⟩
    have e1 := peek_fram (x := x) hL h
    exact ⟨_, Fram.refl h, fun k' => by simp only [opK, e1]; rw [on_bind]⟩

theorem All_forall {α : Type} {n : Nat} {P : Nat → α → Prop} : ∀ {t : T α}, (∀ d, d ≤ n → t.All (P d)) → t.All fun a => ∀ d, d ≤ n → P d a
  | .ret _, h => h
  | .fail, h => h 0 (Nat.zero_le _)
  | .pick _ k, h => fun e he => All_forall fun d hd => h d hd e he
theorem All_swap {α β : Type} {P : α → β → Prop} {ty : T β} : ∀ {tx : T α}, (tx.All fun v => ty.All fun u => P v u) → ty.All fun u => tx.All fun v => P v u
  | .ret _, h => h
  | .fail, h => h.elim
  | .pick _ k, h => All_forall fun d hd => All_swap (h d hd)

theorem swap_box {β : Type} {cl : FuncId → List AV → H → T (AV × H)} {x y : AOper} (h : boxOk x y = true) {l : List AOper} {st : St} {k : St → T β} {R : β → Prop}
    (hr : (opsK cl (x :: y :: l) st k).All R) : (opsK cl (y :: x :: l) st k).All R := by
  obtain ⟨xop, xd, xg⟩ := x
  obtain ⟨yop, yd, yg⟩ := y
  unfold boxOk at h
  split at h
  · rename_i d cs d' dx fx h1 h2 h3 h4 h5 h6
    simp only at h1 h2 h3 h4 h5 h6
    subst h1; subst h2; subst h3; subst h4; subst h5
    simp only [Bool.and_eq_true, beq_iff_eq, Bool.not_eq_true', beq_eq_false_iff_ne, ne_eq] at h
    obtain ⟨⟨⟨rfl, wx⟩, hdx⟩, hd⟩ := h
    have hd : d' ∉ fx := by
      intro hm
      have : fx.contains d' = true := List.contains_iff_mem.2 hm
      rw [this] at hd; cases hd
    simp only [opsK] at hr ⊢
    obtain ⟨tx, st1, ex, fx'⟩ := opK_fram (cl := cl) (L := fx) wx h6 (fun _ h => h) st
    obtain ⟨st1z, f1, _⟩ := fx' st (fun _ _ => rfl) rfl
    rw [ex, T.All_bind] at hr
    have hbd : st.b d' = none := by
      obtain ⟨v, hv⟩ := hr.ex
      simp only [opK] at hv
      have e : (st1.put (some dx) v).b = st.b := f1.b1
      rw [e] at hv
      cases hb : st.b d' with
      | none => rfl
      | some o => rw [hb] at hv; exact hv.elim
    have hN : ∀ (s : St) (k' : AV → St → T β), s.b d' = none → opK cl (.newbox1 d' cs) s k' = k' (.ptr (.loc d') 0) ⟨s.s, upd s.b d' (some (.cells cs)), s.h⟩ := fun s k' hs => by simp only [opK, hs]
    rw [hN st _ hbd]
    obtain ⟨st2', f2, ex2⟩ := fx' ((⟨st.s, upd st.b d' (some (.cells cs)), st.h⟩ : St).put (some d') (.ptr (.loc d') 0)) (fun m hm => by
      have hne : m ≠ d' := fun e => hd (e ▸ hm)
      simp only [St.put, St.set]; rw [upd_ne _ _ _ _ hne]) rfl
    rw [ex2, T.All_bind]
    refine T.All.mono (fun v hv => ?_) hr
    simp only [opK] at hv
    have e : (st1.put (some dx) v).b = st.b := f1.b1
    rw [e, hbd] at hv
    have key : st2'.put (some dx) v = (⟨(st1.put (some dx) v).s, upd st.b d' (some (.cells cs)), (st1.put (some dx) v).h⟩ : St).put (some d') (.ptr (.loc d') 0) := by
      have hs : (st2'.put (some dx) v).s = ((⟨(st1.put (some dx) v).s, upd st.b d' (some (.cells cs)), (st1.put (some dx) v).h⟩ : St).put (some d') (.ptr (.loc d') 0)).s := by
        funext m
        simp only [St.put, St.set, upd]
        by_cases m1 : m = dx
        · have : m ≠ d' := fun e => hdx (m1 ▸ e)
          rw [if_pos m1, if_neg this, if_pos m1]
        · rw [if_neg m1]
          by_cases m2 : m = d'
          · rw [if_pos m2, f2.o2 m (fun hm => hd (m2 ▸ hm))]
            simp only [St.put, St.set, upd]; rw [if_pos m2]
          · rw [if_neg m2, if_neg m1]
            by_cases m3 : m ∈ fx
            · exact f2.ag m m3
            · rw [f2.o2 m m3, f1.o1 m m3]
              simp only [St.put, St.set, upd]; rw [if_neg m2]
      have hb : (st2'.put (some dx) v).b = upd st.b d' (some (.cells cs)) := f2.b2
      have hh : (st2'.put (some dx) v).h = st1.h := by
        show st2'.h = st1.h
        rw [f2.h2, f1.h1]; rfl
      have : ∀ a b : St, a.s = b.s → a.b = b.b → a.h = b.h → a = b := fun a b h1 h2 h3 => by cases a; cases b; simp_all
      exact this _ _ hs hb hh
    rw [key]
    exact hv
  · cases h

theorem swap_ops {β : Type} {cl : FuncId → List AV → H → T (AV × H)} {x y : AOper} (h : swapOk x y = true) {l : List AOper} {st : St} {k : St → T β} {R : β → Prop}
    (hr : (opsK cl (x :: y :: l) st k).All R) : (opsK cl (y :: x :: l) st k).All R := by
  obtain ⟨xop, xd, xg⟩ := x
  obtain ⟨yop, yd, yg⟩ := y
  unfold swapOk at h
  split at h
  · rename_i dx dy fx fy h1 h2 h3 h4 h5 h6
    simp only at h1 h2 h3 h4 h5 h6
    subst h1; subst h2; subst h3; subst h4
    simp only [Bool.and_eq_true] at h
    obtain ⟨⟨wx, wy⟩, h⟩ := h
    have hne : ∀ m, m ∈ dx :: fx → m ∉ dy :: fy := fun m hm hm' => by
      have := List.all_eq_true.1 h m hm
      simp only [Bool.not_eq_true', ← Bool.not_eq_true, List.contains_iff_mem] at this
      exact this hm'
    simp only [opsK] at hr ⊢
    -- x from st, y from st
    obtain ⟨tx, st1, ex, fx'⟩ := opK_fram (cl := cl) (L := fx) wx h5 (fun _ h => h) st
    obtain ⟨ty, st2', ey, fy'⟩ := opK_fram (cl := cl) (L := fy) wy h6 (fun _ h => h) st
    obtain ⟨st1z, f1, _⟩ := fx' st (fun _ _ => rfl) rfl
    obtain ⟨st2z, f2z, _⟩ := fy' st (fun _ _ => rfl) rfl
    rw [ex, T.All_bind] at hr
    rw [ey, T.All_bind]
    simp only [St.put] at hr ⊢
    have keyA : ∀ v, ∃ stb : St, Fram fy st st2' (st1.set dx v) stb ∧ ∀ {γ : Type} (k' : AV → St → T γ), opK cl yop (st1.set dx v) k' = ty.bind fun u => k' u stb := by
      intro v
      have hag : ∀ m, m ∈ fy → (st1.set dx v).s m = st.s m := fun m hm => by
        have h1 : m ≠ dx := fun e => hne m (by rw [e]; exact List.mem_cons_self) (List.mem_cons_of_mem _ hm)
        have h2 : m ∉ fx := fun hf => hne m (List.mem_cons_of_mem _ hf) (List.mem_cons_of_mem _ hm)
        simp only [St.set]; rw [upd_ne _ _ _ _ h1, f1.o1 m h2]
      exact fy' (st1.set dx v) hag (by show st1.h = st.h; exact f1.h1)
    have keyB : ∀ u, ∃ sta : St, Fram fx st st1 (st2'.set dy u) sta ∧ ∀ {γ : Type} (k' : AV → St → T γ), opK cl xop (st2'.set dy u) k' = tx.bind fun v => k' v sta := by
      intro u
      have hag2 : ∀ m, m ∈ fx → (st2'.set dy u).s m = st.s m := fun m hm => by
        have h1 : m ≠ dy := fun e => hne m (List.mem_cons_of_mem _ hm) (by rw [e]; exact List.mem_cons_self)
        have h2 : m ∉ fy := fun hf => hne m (List.mem_cons_of_mem _ hm) (List.mem_cons_of_mem _ hf)
        simp only [St.set]; rw [upd_ne _ _ _ _ h1, f2z.o1 m h2]
      exact fx' (st2'.set dy u) hag2 (by show st2'.h = st.h; exact f2z.h1)
    have keyC : ∀ v u (st2 st1'' : St), Fram fy st st2' (st1.set dx v) st2 → Fram fx st st1 (st2'.set dy u) st1'' → st1''.set dx v = st2.set dy u := by
      intro v u st2 st1'' f2 f3
      have hst : (st1''.set dx v).s = (st2.set dy u).s ∧ (st1''.set dx v).b = (st2.set dy u).b ∧ (st1''.set dx v).h = (st2.set dy u).h := by
        refine ⟨funext fun m => ?_, ?_, ?_⟩
        · simp only [St.set, upd]
          by_cases h1 : m = dx
          · have h2 : m ≠ dy := fun e => hne m (by rw [h1]; exact List.mem_cons_self) (by rw [e]; exact List.mem_cons_self)
            have h3 : m ∉ fy := fun hf => hne m (by rw [h1]; exact List.mem_cons_self) (List.mem_cons_of_mem _ hf)
            rw [if_pos h1, if_neg h2, f2.o2 m h3]; simp only [St.set, upd]; rw [if_pos h1]
          · rw [if_neg h1]
            by_cases h2 : m = dy
            · have h3 : m ∉ fx := fun hf => hne m (List.mem_cons_of_mem _ hf) (by rw [h2]; exact List.mem_cons_self)
              rw [if_pos h2, f3.o2 m h3]; simp only [St.set, upd]; rw [if_pos h2]
            · rw [if_neg h2]
              by_cases h3 : m ∈ fx
              · have h4 : m ∉ fy := fun hf => hne m (List.mem_cons_of_mem _ h3) (List.mem_cons_of_mem _ hf)
                rw [f3.ag m h3, f2.o2 m h4]; simp only [St.set, upd]; rw [if_neg h1]
              · rw [f3.o2 m h3]; simp only [St.set, upd]; rw [if_neg h2]
                by_cases h4 : m ∈ fy
                · rw [f2.ag m h4]
                · rw [f2.o2 m h4, f2z.o1 m h4]; simp only [St.set, upd]; rw [if_neg h1, f1.o1 m h3]
        · show st1''.b = st2.b
          rw [f3.b2, f2.b2]; show st2'.b = st1.b
          rw [f2z.b1, f1.b1]
        · show st1''.h = st2.h
          rw [f3.h2, f2.h2]; show st2'.h = st1.h
          rw [f2z.h1, f1.h1]
      have : ∀ a b : St, a.s = b.s → a.b = b.b → a.h = b.h → a = b := fun a b h1 h2 h3 => by cases a; cases b; simp_all
      exact this _ _ hst.1 hst.2.1 hst.2.2
    have hr2 : tx.All fun v => ty.All fun u => (opsK cl l ((keyA v).choose.set dy u) k).All R := by
      refine T.All.mono (fun v hv => ?_) hr
      rw [(keyA v).choose_spec.2, T.All_bind] at hv
      exact hv
    refine T.All.mono (fun u hu => ?_) (All_swap hr2)
    rw [(keyB u).choose_spec.2, T.All_bind]
    refine T.All.mono (fun v hv => ?_) hu
    rw [keyC v u _ _ (keyA v).choose_spec.1 (keyB u).choose_spec.1]
    exact hv
  · cases h

end Go.Proofs.YticoldgiebmmgaaGreatDoor.Abs

/- Regions: in their order, and where the order is left open. -/
namespace Go.Proofs.YticoldgiebmmgaaGreatDoor.Abs
set_option linter.all false
set_option linter.unusedVariables false

variable {P : Program} {sg : FuncId → Nat → Nat} {hs : Nat → Nat} {w w' : World} {G G' : Gh} {a : Act} {o : Oper} {ops : Array Oper} {Q : Exit → Act → World → Prop} {md : Region.Mode}
variable {w0 : World} {F0 : FT} {A : Nat → Prop} {n : Nat} {st : St} {β : Type}
variable {cl : FuncId → List AV → H → T (AV × H)} {pu : Nat → Bool}

theorem pOp_inv {all : List Oper} {k : AV → St → T β} {R : β → Prop} (hr : (opK cl (pOp P sg hs all o) st k).All R) : pOpA P sg hs all o = some (pOp P sg hs all o) := by
  cases hx : pOpA P sg hs all o with
  | some x => simp [pOp, hx]
  | none => simp [pOp, hx, opK] at hr

theorem dstIn_spec {dst : Option Nat} (h : dstIn n dst = true) : ∀ d, dst = some d → d < n := by
  intro d hd; subst hd; simpa [dstIn] using h

theorem yields_bool (h : SR w0 F0 A n st a w G) {j d : Nat} (hd : ((ops.toList[j]?).bind (·.dst)) = some d) {b : Bool} (hs : st.s d = .bool b) : yielded ops a.tmps j = some b := by
  have h1 := h.slots d
  rw [hs] at h1
  have h2 := TR_bool h1
  have hd' : (ops[j]?).bind (·.dst) = some d := by rw [← hd]; simp
  unfold yielded
  rw [hd']
  have : a.tmps[d]? = some (.bool b) := by
    cases hx : a.tmps[d]? with
    | none => simp [Array.getD_eq_getD_getElem?, hx, undef] at h2
    | some v => simp [Array.getD_eq_getD_getElem?, hx] at h2; rw [h2]
  simp [this]

theorem yields_skipped (h : SR w0 F0 A n st a w G) {j d : Nat} (hd : ((ops.toList[j]?).bind (·.dst)) = some d) (hs : st.s d = .skipped) : yielded ops a.tmps j = none := by
  have h1 := h.slots d
  rw [hs] at h1
  have h2 : a.tmps.getD d undef = undef := h1
  have hd' : (ops[j]?).bind (·.dst) = some d := by rw [← hd]; simp
  unfold yielded
  rw [hd']
  cases hx : a.tmps[d]? with
  | none => simp [hx]
  | some v => simp [Array.getD_eq_getD_getElem?, hx] at h2; rw [Option.bind_some, hx, h2]; rfl

section
variable {γ : Type}
theorem bind_congr' {α β : Type} {x : T α} {f g : α → T β} (h : ∀ a, f a = g a) : x.bind f = x.bind g := by rw [funext h]
theorem fillK_comp {K : γ → T β} : ∀ (l : List (Nat × Nat × AX)) (cs : List AV) (st : St) (k1 : List AV → St → T γ), fillK l cs st (fun cs st => (k1 cs st).bind K) = (fillK l cs st k1).bind K
  | [], cs, st, k1 => rfl
  | (off, m, x) :: l, cs, st, k1 => by
    simp only [fillK, on_bind2]
    congr 1; funext cs'; exact fillK_comp l cs' _ k1
theorem argsK_comp {K : γ → T β} : ∀ (l : List (AX × Bool)) (st : St) (k1 : List AV → St → T γ), argsK l st (fun vs st => (k1 vs st).bind K) = (argsK l st k1).bind K
  | [], st, k1 => rfl
  | (x, true) :: l, st, k1 => by
    simp only [argsK, on_bind2]
    congr 1; funext u; exact argsK_comp l _ _
  | (x, false) :: l, st, k1 => by
    simp only [argsK, on_bind2]
    congr 1; funext u; exact argsK_comp l _ _
theorem opK_comp (cl : FuncId → List AV → H → T (AV × H)) {K : γ → T β} (x : AOp) (st : St) (k1 : AV → St → T γ) : opK cl x st (fun v st => (k1 v st).bind K) = (opK cl x st k1).bind K := by
  cases x <;> simp only [opK] <;> first
    | rfl
    | exact (on_bind2 _ _ _).symm
    | exact fillK_comp _ _ _ _
    | exact (bind_bind _ _ _).symm
    | (split <;> rfl)
    | (rw [on_bind2]; congr 1; funext v; cases v <;> rfl)
    | (rw [← argsK_comp]; congr 1; funext vs st; rw [bind_bind]; apply bind_congr'; intro q; rw [on_bind2])
    | (rw [← argsK_comp]; congr 1; funext vs st; rw [bind_bind])
    | (rw [← argsK_comp]; congr 1; funext vs st; rw [on_bind2]; congr 1; funext q; split
       · rw [bind_bind]; apply bind_congr'; intro q; rw [on_bind2]
       · rw [bind_bind])
theorem opK_bind (cl : FuncId → List AV → H → T (AV × H)) {x : AOp} {dst : Option Nat} {K : St → T β} :
    opK cl x st (fun v st => K (st.put dst v)) = (opK cl x st (fun v st => .ret (st.put dst v))).bind K := by
  rw [← opK_comp]; rfl
end

theorem oper_cases {ao : AOper} (hx : pOper P sg hs n ops.toList o = some ao) (h : SR w0 F0 A n st a w G) {l : List AOper} {k : St → T β} {R : β → Prop} (hr : (opsK cl (ao :: l) st k).All R) :
    (∀ d, o.dst = some d → d < n) ∧ ao.op = pOp P sg hs ops.toList o ∧ ((Region.wanted o (yielded ops a.tmps) = true ∧ (opK cl (pOp P sg hs ops.toList o) st (fun v st => opsK cl l (st.put o.dst v) k)).All R) ∨
      (Region.wanted o (yielded ops a.tmps) = false ∧ (opsK cl l (st.put o.dst .skipped) k).All R)) := by
  unfold pOper at hx
  split at hx
  · rename_i hdst
    split at hx
    · rename_i hg
      injection hx with hx; subst hx
      refine ⟨dstIn_spec hdst, rfl, .inl ⟨by simp [Region.wanted, hg], hr⟩⟩
    · rename_i j want hg
      simp only [Option.map_eq_some_iff] at hx
      obtain ⟨d, hd, rfl⟩ := hx
      refine ⟨dstIn_spec hdst, rfl, ?_⟩
      simp only [opsK] at hr
      unfold onGuard at hr
      split at hr
      · rename_i b hs
        have hy := yields_bool (ops := ops) h hd hs
        split at hr
        · rename_i hb
          refine .inl ⟨by simp [Region.wanted, hg, hy, hb], ?_⟩
          -- the operation's outcome, then what follows
          rw [opK_bind (K := fun st => opsK cl l st k) cl]; exact hr
        · rename_i hb
          exact .inr ⟨by simp [Region.wanted, hg, hy, hb], hr⟩
      · rename_i hs
        have hy := yields_skipped (ops := ops) h hd hs
        exact .inr ⟨by simp [Region.wanted, hg, hy], hr⟩
      · exact hr.elim
  · cases hx

theorem ops_sound (hcl : CallOk P cl) : ∀ {l : List Oper} {al : List AOper} {st : St} {a : Act} {w : World} {G : Gh} {k : St → T β} {R : β → Prop},
    pOpers P sg hs n ops.toList l = some al → (opsK cl al st k).All R → SR w0 F0 A n st a w G →
    (∀ st' a' w' G', (k st').All R → SR w0 F0 A n st' a' w' G' → Q .normal a' w') → wpList P ops Q l a w
  | [], al, st, a, w, G, k, R, hp, hr, h, hQ => by
    simp only [pOpers, Option.some.injEq] at hp; subst hp
    exact hQ st a w G hr h
  | o :: l, al, st, a, w, G, k, R, hp, hr, h, hQ => by
    simp only [pOpers, Option.bind_eq_some_iff, Option.map_eq_some_iff] at hp
    obtain ⟨ao, hao, al', hal, rfl⟩ := hp
    obtain ⟨hd, _, hc⟩ := oper_cases hao h hr
    unfold wpList
    rcases hc with ⟨hw, hr'⟩ | ⟨hw, hr'⟩
    · rw [if_pos hw]
      refine .inl (op_soundA hcl ops.toList (pOp_inv hr') h hr' fun v' w' ⟨v, st', G', h1, h2, h3, _⟩ => ?_)
      exact ops_sound hcl hal h1 (h2.put hd h3) hQ
    · rw [if_neg (by rw [hw]; simp)]
      exact ops_sound hcl hal hr' (h.put hd (fun d _ => rfl)) hQ

/-! ### An order left open -/

def wpAnyX (pu : Nat → Bool) (P : Program) (md : Region.Mode) (ops : Array Oper) (Q : Exit → Act → World → Prop) : Nat → Array Bool → (World → Prop) → (World → Prop) → Act → World → Prop
  | 0, listed, _, _, a, w => Region.ready md ops listed = [] ∧ Q .normal a w
  | fuel + 1, listed, S, C, a, w =>
    (Region.ready md ops listed = [] → Q .normal a w) ∧
    ∀ i ∈ Region.ready md ops listed, wpOp P ops Q i (fun a' w' => ∃ S' C' : World → Prop, (∀ w, C' w → C w) ∧ C' w' ∧ (barB pu ops i = true ∨ ∀ w, S' w → S w) ∧ S' w' ∧ wpAnyX pu P md ops Q fuel (listed.setIfInBounds i true) S' C' a' w') a w

theorem wpAny_of_X : ∀ (fuel : Nat) (listed : Array Bool) (S C : World → Prop) (a : Act) (w : World), wpAnyX pu P md ops Q fuel listed S C a w → wpAny P md ops Q fuel listed a w
  | 0, _, _, _, _, _, h => h
  | fuel + 1, _, _, _, _, _, h => ⟨h.1, fun i hi => wpOp_mono (fun a' w' ⟨S', C', _, _, _, _, h'⟩ => wpAny_of_X fuel _ S' C' a' w' h') (h.2 i hi)⟩

theorem wpAnyX_weaken {fuel : Nat} {listed : Array Bool} {S S' C C' : World → Prop} {a : Act} {w : World} (hS : ∀ w, S' w → S w) (hC : ∀ w, C' w → C w) (h : wpAnyX pu P md ops Q fuel listed S' C' a w) : wpAnyX pu P md ops Q fuel listed S C a w := by
  cases fuel with
  | zero => exact h
  | succ fuel => exact ⟨h.1, fun i hi => wpOp_mono (fun a' w' ⟨S2, C2, h0, h00, h1, h2, h3⟩ => ⟨S2, C2, fun w hw => hC w (h0 w hw), h00, h1.imp id (fun k w hw => hS w (k w hw)), h2, h3⟩) (h.2 i hi)⟩

def Closed (ops : Array Oper) (listed : Array Bool) : Prop := ∀ (j : Nat) oj, ops[j]? = some oj → listed.getD j false = true → ∀ e ∈ oj.after, Region.binds .any e = true → listed.getD e.on false = true

theorem foldl_app {α β : Type} (g : List β → α → β) : ∀ (l : List α) (acc : List β),
    ∃ r, l.foldl (fun acc o => acc ++ [g acc o]) acc = acc ++ r ∧ r.length = l.length ∧ ∀ k (h : k < l.length) (h' : k < r.length), r[k] = g (acc ++ r.take k) l[k]
  | [], acc => ⟨[], by simp, rfl, fun k h => absurd h (by simp)⟩
  | o :: l, acc => by
    obtain ⟨r, h1, h2, h3⟩ := foldl_app g l (acc ++ [g acc o])
    refine ⟨g acc o :: r, by simp [h1], by simp [h2], fun k hk hk' => ?_⟩
    cases k with
    | zero => simp
    | succ k => simp only [List.getElem_cons_succ, List.take_succ_cons]; rw [h3 k (by simpa using hk) (by simpa using hk')]; simp

theorem waitsFor_spec {i j : Nat} (h : (waitsFor ops i).getD j false = true) : ∃ oj, ops[j]? = some oj ∧ ∃ e ∈ oj.after, Region.binds .any e = true ∧ (e.on = i ∨ (e.on < j ∧ (waitsFor ops i).getD e.on false = true)) := by
  obtain ⟨r, h1, h2, h3⟩ := foldl_app (fun (acc : List Bool) (o : Oper) => o.after.any fun e => Region.binds .any e && (e.on == i || acc.getD e.on false)) ops.toList []
  have hw : waitsFor ops i = r := by unfold waitsFor; rw [h1]; rfl
  rw [hw] at h ⊢
  by_cases hj : j < r.length
  · have hj' : j < ops.toList.length := by rw [← h2]; exact hj
    have h4 := h3 j hj' hj
    rw [List.getD_eq_getElem?_getD, List.getElem?_eq_getElem hj, Option.getD_some, h4] at h
    rw [Array.any_eq_true'] at h
    obtain ⟨e, he, h5⟩ := h
    simp only [Bool.and_eq_true, Bool.or_eq_true, beq_iff_eq, List.nil_append] at h5
    refine ⟨ops.toList[j], by simp [Array.getElem?_eq_getElem (by simpa using hj')], e, he, h5.1, h5.2.imp id fun h6 => ?_⟩
    rw [List.getD_eq_getElem?_getD] at h6 ⊢
    by_cases hlt : e.on < j
    · refine ⟨hlt, ?_⟩
      rw [List.getElem?_take_of_lt hlt] at h6; exact h6
    · rw [List.getElem?_eq_none (by simp; omega)] at h6; simp at h6
  · rw [List.getD_eq_getElem?_getD, List.getElem?_eq_none (by omega)] at h; simp at h

theorem waitsFor_not {listed : Array Bool} (hcl : Closed ops listed) {i : Nat} (hi : listed.getD i true = false) : ∀ (m j : Nat), j ≤ m → (∀ oj, ops[j]? = some oj → ∀ e ∈ oj.after, Region.binds .any e = true → listed.getD e.on false = true) → (waitsFor ops i).getD j false ≠ true := by
  have hi' : listed.getD i false ≠ true := by
    intro h1
    rcases Nat.lt_or_ge i listed.size with h' | h'
    · simp [h'] at hi h1; rw [hi] at h1; cases h1
    · simp [Array.getElem?_eq_none h'] at h1
  intro m
  induction m with
  | zero =>
    intro j hj hall h
    obtain ⟨oj, h1, e, he, hb, h2⟩ := waitsFor_spec h
    rcases h2 with h2 | ⟨h2, _⟩
    · exact hi' (h2 ▸ hall oj h1 e he hb)
    · omega
  | succ m ih =>
    intro j hj hall h
    obtain ⟨oj, h1, e, he, hb, h2⟩ := waitsFor_spec h
    rcases h2 with h2 | ⟨h2, h3⟩
    · exact hi' (h2 ▸ hall oj h1 e he hb)
    · exact ih e.on (by omega) (fun o' ho' => hcl e.on o' ho' (hall oj h1 e he hb)) h3

theorem barB_not {listed : Array Bool} {i j : Nat} (hpu : pu i = false) (hcl : Closed ops listed) (hij : j ≠ i) (hi : i ∈ Region.ready .any ops listed) (hj : j ∈ Region.ready .any ops listed) : barB pu ops j ≠ true := by
  intro h
  obtain ⟨hiu, oi, hoi, hia⟩ := mem_ready.1 hi
  obtain ⟨hju, oj, hoj, hja⟩ := mem_ready.1 hj
  unfold barB at h
  rw [List.all_eq_true] at h
  have := h i (List.mem_range.2 (Array.getElem?_eq_some_iff.1 hoi).1)
  simp only [Bool.or_eq_true, beq_iff_eq, hpu, Bool.false_eq_true, or_false] at this
  rcases this with (h1 | h1) | h1
  · exact hij h1.symm
  · exact waitsFor_not hcl hiu j j (Nat.le_refl _) (fun o ho => by rw [hoj] at ho; injection ho with ho; subst ho; exact hja) h1
  · exact waitsFor_not hcl hju i i (Nat.le_refl _) (fun o ho => by rw [hoi] at ho; injection ho with ho; subst ho; exact hia) h1

theorem Closed.set {listed : Array Bool} {i : Nat} (hcl : Closed ops listed) (hi : i ∈ Region.ready .any ops listed) : Closed ops (listed.setIfInBounds i true) := by
  obtain ⟨hiu, oi, hoi, hia⟩ := mem_ready.1 hi
  have hmono : ∀ k, listed.getD k false = true → (listed.setIfInBounds i true).getD k false = true := fun k hk => by
    by_cases hki : i = k
    · subst hki
      rcases Nat.lt_or_ge i listed.size with h' | h'
      · simp [h']
      · simp [Array.getElem?_eq_none h'] at hk
    · rw [getD_set_ne false hki]; exact hk
  intro j oj hoj hl e he hb
  by_cases hji : i = j
  · subst hji; rw [hoi] at hoj; injection hoj with hoj; subst hoj; exact hmono _ (hia e he hb)
  · rw [getD_set_ne false hji] at hl; exact hmono _ (hcl j oj hoj hl e he hb)

theorem wpAnyX_first {i : Nat} {oi : Oper} {v : Value} {Sy : World → Prop} (hi : ops[i]? = some oi) (hsel : ∀ (j : Nat) (o : Oper) cs b, ops[j]? = some o → o.op ≠ .select cs b)
    (hQ : ∀ c a w, Q (.panic c) (a.put oi.dst v) w → Q (.panic c) a w) :
    ∀ (fuel : Nat) (listed : Array Bool) (S C : World → Prop) (a : Act) (w : World),
      (∀ j oj, ops[j]? = some oj → j ≠ i → listed.getD j true = false → (∀ e ∈ oj.after, Region.binds .any e = true → e.on ≠ i) → oi.apart ops oj = true) →
      Closed ops listed → i ∈ Region.ready .any ops listed → YieldsIf P ops Sy oi v a → ((pu i = false ∧ ∀ w, S w → Sy w) ∨ ∀ w, C w → Sy w) → S w → C w →
      wpAnyX pu P .any ops Q fuel (listed.setIfInBounds i true) S C (a.put oi.dst v) w → wpAnyX pu P .any ops Q (fuel + 1) listed S C a w := by
  intro fuel
  induction fuel with
  | zero =>
    intro listed S C a w _ hcl hr hy hrel hS hCw H
    have hSy : Sy w := hrel.elim (fun h => h.2 w hS) fun h => h w hCw
    refine ⟨fun h => (by rw [h] at hr; cases hr), fun j hj => ?_⟩
    by_cases hji : j = i
    · subst hji; exact hy.wpOp hi hSy ⟨S, C, fun _ h => h, hCw, .inr fun _ h => h, hS, H⟩
    · have := ready_mono hj hji
      rw [H.1] at this
      cases this
  | succ fuel ih =>
    intro listed S C a w hfree hcl hr hy hrel hS hCw H
    have hSy : Sy w := hrel.elim (fun h => h.2 w hS) fun h => h w hCw
    refine ⟨fun h => (by rw [h] at hr; cases hr), fun j hj => ?_⟩
    by_cases hji : j = i
    · subst hji; exact hy.wpOp hi hSy ⟨S, C, fun _ h => h, hCw, .inr fun _ h => h, hS, H⟩
    · have h1 := H.2 j (ready_mono hj hji)
      obtain ⟨hjun, oj, hoj, hall⟩ := mem_ready.1 hj
      have hnot : ∀ e ∈ oj.after, Region.binds .any e = true → e.on ≠ i := fun e he hb heq => by
        have h1 := hall e he hb
        have h0 := (mem_ready.1 hr).1
        rw [heq] at h1
        rcases Nat.lt_or_ge i listed.size with h' | h'
        · simp [h'] at h0 h1; rw [h0] at h1; cases h1
        · simp [Array.getElem?_eq_none h'] at h1
      have h2 := wpOp_putIf hoj (hfree j oj hoj hji hjun hnot) (fun cs b => hsel i oi cs b hi) (fun cs b => hsel j oj cs b hoj) hQ hy h1
      have hfree' : ∀ k ok, ops[k]? = some ok → k ≠ i → (listed.setIfInBounds j true).getD k true = false →
          (∀ e ∈ ok.after, Region.binds .any e = true → e.on ≠ i) → oi.apart ops ok = true := fun k ok hk hki hun hno => by
        refine hfree k ok hk hki ?_ hno
        by_cases hjk : j = k
        · subst hjk; exact hjun
        · rw [getD_set_ne true hjk] at hun; exact hun
      refine wpOp_mono (fun a' w' ⟨h3, S', C', hc0, hc1, h40, h5, h6⟩ => ⟨S', C', hc0, hc1, h40, h5, ih (listed.setIfInBounds j true) S' C' a' w' hfree' (hcl.set hj) (ready_mono hr (Ne.symm hji)) h3 (hrel.imp (fun hp => ⟨hp.1, fun w hw => hp.2 w (h40.resolve_left (barB_not hp.1 hcl hji hr hj) w hw)⟩) fun hp w hw => hp w (hc0 w hw)) h5 hc1 ?_⟩) h2
      rw [Array.setIfInBounds_comm _ _ hji]
      exact h6

theorem freeAt_spec {listed : Array Bool} {i : Nat} {oi : Oper} (h : freeAt ops listed i oi = true) :
    ∀ j oj, ops[j]? = some oj → j ≠ i → listed.getD j true = false → (∀ e ∈ oj.after, Region.binds .any e = true → e.on ≠ i) → oi.apart ops oj = true := by
  intro j oj hj hji hl hno
  unfold freeAt at h
  rw [List.all_eq_true] at h
  have := h j (List.mem_range.2 (Array.getElem?_eq_some_iff.1 hj).1)
  rw [hj, hl] at this
  simp only [Bool.or_false, Bool.or_eq_true, beq_iff_eq, hji, false_or] at this
  rcases this with h1 | h1
  · rw [Array.any_eq_true'] at h1
    obtain ⟨e, he, h2⟩ := h1
    simp only [Bool.and_eq_true, beq_iff_eq] at h2
    exact absurd h2.2 (hno e he h2.1)
  · exact h1

def Here (G : Gh) (b : Nat) : Prop := G.ω b ≠ .free
theorem SR.rebase (h : SR w0 F0 A n st a w G) : SR w G.Fr (Here G) n st a w G :=
  ⟨h.size, h.defers, h.slots, h.boxes, h.heap, Kp.refl _ _, Ext.refl _ _, fun b hb => ⟨(h.mine b hb).1, .inl hb⟩, fun _ _ _ => rfl, h.fresh, h.nob⟩
theorem SR.unbase (h : SR w0 F0 A n st a w G) {st' : St} {a' : Act} {w' : World} {G' : Gh} (k : SR w G.Fr (Here G) n st' a' w' G') : SR w0 F0 A n st' a' w' G' := by
  have hA : ∀ b, Here G b → b < w.heap.size ∧ (A b ∨ w0.heap.size ≤ b) := fun b hb => h.mine b hb
  refine ⟨k.size, k.defers, k.slots, k.boxes, k.heap, h.kept.trans k.kept (fun b hb hd => ?_), h.ext.trans k.ext, fun b hb => ?_, fun b hb hnA => ?_, k.fresh, k.nob⟩
  · rcases (hA b hd).2 with h' | h'
    · exact h'
    · omega
  · obtain ⟨h1, h2⟩ := k.mine b hb
    rcases h2 with h2 | h2
    · exact ⟨h1, (hA b h2).2⟩
    · exact ⟨h1, .inr (Nat.le_trans h.kept.size h2)⟩
  · have hnH : ¬ Here G b := fun hh => by rcases (hA b hh).2 with h' | h'; { exact hnA h' }; { omega }
    exact (k.same b (Nat.lt_of_lt_of_le hb h.kept.size) hnH).trans (h.same b hb hnA)
theorem op_soundE (hcl : CallOk P cl) (all : List Oper) {x : AOp} (hx : pOpA P sg hs all o = some x) (h : SR w0 F0 A n st a w G) {k : AV → St → T β} {R : β → Prop} (hr : (opK cl x st k).All R)
    {next : Act → World → Prop} (hn : ∀ v' w', (∃ v st' G', ((k v st').All R ∧ SR w0 F0 A n st' a w' G' ∧ (∀ d, o.dst = some d → TR w' G' (.slot d) v v') ∧ ((x.early = true ∨ x.calm = true) → Stab st.at G w st'.at G' w')) ∧ Ext w G.Fr w' G'.Fr) → next (a.put o.dst v') w') : o.wp P a w next Q :=
  op_soundA hcl all hx h.rebase hr fun v' w' ⟨v, st', G', h1, h2, h3, h4⟩ => hn v' w' ⟨v, st', G', ⟨h1, h.unbase h2, h3, h4⟩, h2.ext⟩

theorem late_step (hcl : CallOk P cl) {i : Nat} {oi : Oper} {ao : AOper} (hoi : ops[i]? = some oi) (hcalm : (pOp P sg hs ops.toList oi).calm = true ∨ barB pu ops i = true) (hao : pOper P sg hs n ops.toList oi = some ao) {al : List AOper} {st : St} {a : Act} {w : World} {G : Gh} {k : St → T β} {R : β → Prop}
    (hr : (opsK cl (ao :: al) st k).All R) (h : SR w0 F0 A n st a w G) {RR : (World → Prop) → (World → Prop) → Act → World → Prop} (hR : ∀ st' a' w' G', (opsK cl al st' k).All R → SR w0 F0 A n st' a' w' G' → RR (Pres st'.at G' w') (Pres (fun _ => none) G' w') a' w') :
    wpOp P ops Q i (fun a' w' => ∃ S' C' : World → Prop, (∀ w'', C' w'' → Pres (fun _ => none) G w w'') ∧ C' w' ∧ (barB pu ops i = true ∨ ∀ w'', S' w'' → Pres st.at G w w'') ∧ S' w' ∧ RR S' C' a' w') a w := by
  obtain ⟨hd, _, hcs⟩ := oper_cases hao h hr
  unfold wpOp
  simp only [hoi]
  rcases hcs with ⟨hw, hr'⟩ | ⟨hw, hr'⟩
  · rw [if_pos hw]
    refine .inl (op_soundE hcl ops.toList (pOp_inv hr') h hr' fun v' w' ⟨v, st', G', ⟨h1, h2, h3, h4⟩, hE⟩ => ?_)
    have hb : (st'.put oi.dst v).at = st'.at := by cases oi.dst <;> rfl
    exact ⟨Pres (st'.put oi.dst v).at G' w', Pres (fun _ => none) G' w', fun w'' hw'' => ⟨fun b o u ho hu => hw''.cell b o u (Nat.lt_of_lt_of_le ho (hE.more b)) (hE.cell b o u ho hu), fun _ _ _ hs => by cases hs⟩, Pres.refl _ _ _, hcalm.elim (fun hcalm => .inr fun w'' hw'' => (h4 (.inr hcalm)).pres (by rw [hb] at hw''; exact hw'')) .inl, Pres.refl _ _ _, hR _ _ _ _ h1 (h2.put hd h3)⟩
  · rw [if_neg (by rw [hw]; simp)]
    have hb : (st.put oi.dst .skipped).at = st.at := by cases oi.dst <;> rfl
    exact ⟨Pres (st.put oi.dst .skipped).at G w, Pres (fun _ => none) G w, fun _ h => h, Pres.refl _ _ _, .inr fun w'' hw'' => by rw [hb] at hw''; exact hw'', Pres.refl _ _ _, hR _ _ _ _ hr' (h.put hd (fun d _ => rfl))⟩

theorem pOper_plain {o : Oper} {ao : AOper} (hg : o.guard.isNone = true) (h : pOper P sg hs n ops.toList o = some ao) : ao = ⟨pOp P sg hs ops.toList o, o.dst, none⟩ := by
  unfold pOper at h
  split at h
  · split at h
    · injection h with h; exact h.symm
    · rename_i hj; rw [hj] at hg; cases hg
  · cases h

theorem bubble_sound {j : Nat} : ∀ {L L2 : List Nat} {l : List Oper} {al : List AOper} {st : St} {k : St → T β} {R : β → Prop}, bubble P sg hs ops j L = some L2 → getAll ops L = some l → pOpers P sg hs n ops.toList l = some al → (opsK cl al st k).All R →
    ∃ oj aj l2 al2, ops[j]? = some oj ∧ pOper P sg hs n ops.toList oj = some aj ∧ getAll ops L2 = some l2 ∧ pOpers P sg hs n ops.toList l2 = some al2 ∧ (opsK cl (aj :: al2) st k).All R
  | [], L2, l, al, st, k, R, hb, _, _, _ => by simp [bubble] at hb
  | m :: t, L2, l, al, st, k, R, hb, hg, hp, hr => by
    simp only [getAll, Option.bind_eq_some_iff, Option.map_eq_some_iff] at hg
    obtain ⟨om, hom, l', hl', rfl⟩ := hg
    simp only [pOpers, Option.bind_eq_some_iff, Option.map_eq_some_iff] at hp
    obtain ⟨am, ham, al', hal', rfl⟩ := hp
    unfold bubble at hb
    split at hb
    · rename_i hmj
      injection hb with hb; subst hb; subst hmj
      exact ⟨om, am, l', al', hom, ham, hl', hal', hr⟩
    · split at hb
      · rename_i om' oj hom' hoj
        rw [hom] at hom'; injection hom' with hom'; subst hom'
        split at hb
        · rename_i hcond
          simp only [Bool.and_eq_true] at hcond
          obtain ⟨⟨hgm, hgj⟩, hsw⟩ := hcond
          simp only [Option.map_eq_some_iff] at hb
          obtain ⟨t2, ht2, rfl⟩ := hb
          have em := pOper_plain hgm ham
          subst em
          have hfoot : ∃ F, (pOp P sg hs ops.toList om).foot = some F ∧ (pOp P sg hs ops.toList om).still = true := by
            rcases Bool.or_eq_true _ _ ▸ hsw with hsw | hsw
            · unfold swapOk at hsw
              split at hsw
              · rename_i h1 h2 h3 h4 h5 h6
                simp only [Bool.and_eq_true] at hsw
                exact ⟨_, h5, hsw.1.1⟩
              · cases hsw
            · unfold boxOk at hsw
              split at hsw
              · rename_i h1 h2 h3 h4 h5 h6
                simp only [Bool.and_eq_true] at hsw
                exact ⟨_, h6, hsw.1.1.2⟩
              · cases hsw
          obtain ⟨F, hF, hw⟩ := hfoot
          have hr0 := hr
          simp only [opsK] at hr0
          obtain ⟨tx, st', ex, _⟩ := opK_fram (cl := cl) (L := F) hw hF (fun _ h => h) st
          rw [ex, T.All_bind] at hr0
          obtain ⟨v0, e1⟩ := hr0.ex
          obtain ⟨oj', aj, l2, al2, g1, g2, g3, g4, _⟩ := bubble_sound ht2 hl' hal' e1
          rw [hoj] at g1; injection g1 with g1; subst g1
          have ej := pOper_plain hgj g2
          subst ej
          refine ⟨oj, _, om :: l2, _, hoj, g2, by simp [getAll, hom, g3], by simp [pOpers, ham, g4]; rfl, (Bool.or_eq_true _ _ ▸ hsw).elim (fun hsw h => swap_ops hsw h) (fun hsw h => swap_box hsw h) ?_⟩
          show (opK cl _ st (fun v st => opsK cl (_ :: al2) (st.put om.dst v) k)).All R
          rw [ex, T.All_bind]
          refine T.All.mono (fun v hv => ?_) hr0
          obtain ⟨oj', aj', l2', al2', k1, k2, k3, k4, k5⟩ := bubble_sound ht2 hl' hal' hv
          rw [hoj] at k1; injection k1 with k1; subst k1
          rw [g2] at k2; injection k2 with k2; subst k2
          rw [g3] at k3; injection k3 with k3; subst k3
          rw [g4] at k4; injection k4 with k4; subst k4
          exact k5
        · cases hb
      · cases hb

theorem draw_sound (hcl : CallOk P cl) (hsel : ∀ (j : Nat) (o : Oper) cs b, ops[j]? = some o → o.op ≠ .select cs b) (hQp : ∀ c a w, ¬ Q (.panic c) a w) :
    ∀ {fuel : Nat} {listed : Array Bool} {idx : List Nat} {l : List Oper} {al : List AOper} {st : St} {a : Act} {w : World} {G : Gh} {k : St → T β} {R : β → Prop},
    Closed ops listed → canonGo P sg hs ops fuel listed = some idx → getAll ops idx = some l → pOpers P sg hs n ops.toList l = some al → (opsK cl al st k).All R → SR w0 F0 A n st a w G →
    (∀ st' a' w' G', (k st').All R → SR w0 F0 A n st' a' w' G' → Q .normal a' w') → wpAnyX (pureAt P sg hs ops) P .any ops Q fuel listed (Pres st.at G w) (Pres (fun _ => none) G w) a w := by
  intro fuel
  induction fuel with
  | zero =>
    intro listed idx l al st a w G k r hcd hc hg hp hr h hQ
    unfold canonGo at hc
    split at hc
    · rename_i he
      injection hc with hc; subst hc
      simp only [getAll, Option.some.injEq] at hg; subst hg
      simp only [pOpers, Option.some.injEq] at hp; subst hp
      exact ⟨he, hQ st a w G hr h⟩
    · cases hc
  | succ fuel ih =>
    intro listed idx l al st a w G k r hcd hc hg hp hr h hQ
    unfold canonGo at hc
    split at hc
    · rename_i he
      injection hc with hc; subst hc
      simp only [getAll, Option.some.injEq] at hg; subst hg
      simp only [pOpers, Option.some.injEq] at hp; subst hp
      exact ⟨fun _ => hQ st a w G hr h, fun i hi => (by rw [he] at hi; cases hi)⟩
    · rename_i hne
      split at hc
      · -- one that is taken first
        rename_i i hfind
        have hmem := List.mem_of_find?_eq_some hfind
        have hprop := List.find?_some hfind
        simp only [Option.map_eq_some_iff] at hc
        obtain ⟨idx', hc', rfl⟩ := hc
        simp only [getAll, Option.bind_eq_some_iff, Option.map_eq_some_iff] at hg
        obtain ⟨oi, hoi, l', hl', rfl⟩ := hg
        rw [hoi] at hprop
        simp only [Bool.and_eq_true] at hprop
        obtain ⟨hearly, hfree⟩ := hprop
        simp only [pOpers, Option.bind_eq_some_iff, Option.map_eq_some_iff] at hp
        obtain ⟨ao, hao, al', hal, rfl⟩ := hp
        obtain ⟨hd, _, hcs⟩ := oper_cases hao h hr
        have hQ' : ∀ (v : Value) c a w, Q (.panic c) (a.put oi.dst v) w → Q (.panic c) a w := fun v c a w hq => absurd hq (hQp _ _ _)
        rcases hcs with ⟨hw, hr'⟩ | ⟨hw, hr'⟩
        · obtain ⟨v', v, st', G', h1, h2, h3, hS, hR⟩ := early_soundA (cl := cl) ops.toList (pOp_inv hr') hearly h hr'
          have hb : (st'.put oi.dst v).at = st'.at := by cases oi.dst <;> rfl
          have hrest := ih (hcd.set hmem) hc' hl' hal h1 (h2.put hd h3) hQ
          rw [hb] at hrest
          have hpa : pureAt P sg hs ops i = (pOp P sg hs ops.toList oi).pure := by unfold pureAt; rw [hoi]
          have hrel : (pureAt P sg hs ops i = false ∧ ∀ w'', Pres st'.at G' w w'' → ((pOp P sg hs ops.toList oi).pure = true ∧ Pres (fun _ => none) G' w w'') ∨ Pres st'.at G' w w'') ∨ ∀ w'', Pres (fun _ => none) G' w w'' → ((pOp P sg hs ops.toList oi).pure = true ∧ Pres (fun _ => none) G' w w'') ∨ Pres st'.at G' w w'' := by
            cases hp : (pOp P sg hs ops.toList oi).pure with
            | true => exact .inr fun _ h => .inl ⟨rfl, h⟩
            | false => exact .inl ⟨by rw [hpa, hp], fun _ h => .inr h⟩
          exact wpAnyX_weaken (fun w'' hw'' => hS.pres hw'') (fun w'' hw'' => ⟨fun b o u ho hu => hw''.cell b o u (Nat.lt_of_lt_of_le ho (hS.ext.more b)) hu, fun _ _ _ hs => by cases hs⟩) (wpAnyX_first hoi hsel (hQ' v') fuel listed _ _ a w (freeAt_spec hfree) hcd hmem (.inl ⟨hw, fun w'' hw'' => hR w'' hw''⟩) hrel (Pres.refl _ _ _) (Pres.refl _ _ _) hrest)
        · refine wpAnyX_first hoi hsel (hQ' undef) fuel listed _ _ a w (Sy := fun _ => True) (freeAt_spec hfree) hcd hmem (.inr ⟨hw, rfl⟩) (.inr fun _ _ => trivial) (Pres.refl _ _ _) (Pres.refl _ _ _) ?_
          have := ih (hcd.set hmem) hc' hl' hal hr' (h.put hd (fun d _ => rfl)) hQ
          have hb : (st.put oi.dst .skipped).at = st.at := by cases oi.dst <;> rfl
          rw [hb] at this; exact this
      · split at hc
        · rename_i i hready
          split at hc
          · rename_i oi hoi
            split at hc
            · rename_i hcalm
              simp only [Option.map_eq_some_iff] at hc
              obtain ⟨idx', hc', rfl⟩ := hc
              simp only [getAll, Option.bind_eq_some_iff, Option.map_eq_some_iff] at hg
              obtain ⟨oi', hoi', l', hl', rfl⟩ := hg
              rw [hoi] at hoi'; injection hoi' with hoi'; subst hoi'
              simp only [pOpers, Option.bind_eq_some_iff, Option.map_eq_some_iff] at hp
              obtain ⟨ao, hao, al', hal, rfl⟩ := hp
              refine ⟨fun he => (by rw [hready] at he; cases he), fun j hj => ?_⟩
              have hcd' := hcd.set hj
              rw [hready, List.mem_singleton] at hj; subst hj
              exact late_step hcl hoi (by simpa using hcalm) hao hr h (RR := fun S C a w => wpAnyX (pureAt P sg hs ops) P .any ops Q fuel (listed.setIfInBounds j true) S C a w) (fun st' a' w' G' h1 h2 => ih hcd' hc' hl' hal h1 h2 hQ)
            · cases hc
          · cases hc
        · rename_i i j hready
          split at hc
          · rename_i oi oj hoi hoj
            split at hc
            · rename_i hcond
              simp only [Bool.and_eq_true] at hcond
              obtain ⟨hci, hcj⟩ := hcond
              simp only [Option.bind_eq_some_iff] at hc
              obtain ⟨l1, hl1, l2, hl2, hc⟩ := hc
              split at hc
              · rename_i hbub
                injection hc with hc; subst hc
                obtain ⟨oj', aj, lr2, al2, g1, g2, g3, g4, g5⟩ := bubble_sound hbub hg hp hr
                rw [hoj] at g1; injection g1 with g1; subst g1
                simp only [getAll, Option.bind_eq_some_iff, Option.map_eq_some_iff] at hg
                obtain ⟨oi', hoi', l', hl', rfl⟩ := hg
                rw [hoi] at hoi'; injection hoi' with hoi'; subst hoi'
                simp only [pOpers, Option.bind_eq_some_iff, Option.map_eq_some_iff] at hp
                obtain ⟨ai, hai, al', hal, rfl⟩ := hp
                refine ⟨fun he => (by rw [hready] at he; cases he), fun m hm => ?_⟩
                have hcd' := hcd.set hm
                rw [hready] at hm
                simp only [List.mem_cons, List.not_mem_nil, or_false] at hm
                rcases hm with rfl | rfl
                · exact late_step hcl hoi (.inl hci) hai hr h (RR := fun S C a w => wpAnyX (pureAt P sg hs ops) P .any ops Q fuel (listed.setIfInBounds m true) S C a w) (fun st' a' w' G' h1 h2 => ih hcd' hl1 hl' hal h1 h2 hQ)
                · exact late_step hcl hoj (.inl hcj) g2 g5 h (RR := fun S C a w => wpAnyX (pureAt P sg hs ops) P .any ops Q fuel (listed.setIfInBounds m true) S C a w) (fun st' a' w' G' h1 h2 => ih hcd' hl2 g3 g4 h1 h2 hQ)
              · split at hc
                · rename_i hbub
                  injection hc with hc; subst hc
                  obtain ⟨oj', aj, lr2, al2, g1, g2, g3, g4, g5⟩ := bubble_sound hbub hg hp hr
                  rw [hoi] at g1; injection g1 with g1; subst g1
                  simp only [getAll, Option.bind_eq_some_iff, Option.map_eq_some_iff] at hg
                  obtain ⟨oi', hoi', l', hl', rfl⟩ := hg
                  rw [hoj] at hoi'; injection hoi' with hoi'; subst hoi'
                  simp only [pOpers, Option.bind_eq_some_iff, Option.map_eq_some_iff] at hp
                  obtain ⟨ai, hai, al', hal, rfl⟩ := hp
                  refine ⟨fun he => (by rw [hready] at he; cases he), fun m hm => ?_⟩
                  have hcd' := hcd.set hm
                  rw [hready] at hm
                  simp only [List.mem_cons, List.not_mem_nil, or_false] at hm
                  rcases hm with rfl | rfl
                  · exact late_step hcl hoi (.inl hci) g2 g5 h (RR := fun S C a w => wpAnyX (pureAt P sg hs ops) P .any ops Q fuel (listed.setIfInBounds m true) S C a w) (fun st' a' w' G' h1 h2 => ih hcd' hl1 g3 g4 h1 h2 hQ)
                  · exact late_step hcl hoj (.inl hcj) hai hr h (RR := fun S C a w => wpAnyX (pureAt P sg hs ops) P .any ops Q fuel (listed.setIfInBounds m true) S C a w) (fun st' a' w' G' h1 h2 => ih hcd' hl2 hl' hal h1 h2 hQ)
                · cases hc
            · cases hc
          · cases hc
        · cases hc

theorem region_draw_sound (hcl : CallOk P cl) (hm : P.follows .mixedOrders = true) {id : Nat} {l : List Oper} {al : List AOper} {k : St → T β} {R : β → Prop} (hQp : ∀ c a w, ¬ Q (.panic c) a w)
    (hc : canonOf P sg hs ops = some l) (hp : pOpers P sg hs n ops.toList l = some al) (hr : (opsK cl al st k).All R) (h : SR w0 F0 A n st a w G)
    (hQ : ∀ st' a' w' G', (k st').All R → SR w0 F0 A n st' a' w' G' → Q .normal a' w') : (Code.region id ops true).wp P Q a w := by
  unfold canonOf at hc
  split at hc
  · cases hc
  · rename_i hns
    simp only [Option.bind_eq_some_iff] at hc
    obtain ⟨idx, hc, hg⟩ := hc
    have hsel : ∀ (j : Nat) (o : Oper) cs b, ops[j]? = some o → o.op ≠ .select cs b := by
      intro j o cs b hj he
      apply hns
      rw [List.any_eq_true]
      refine ⟨o, ?_, by simp [isSelect, he]⟩
      obtain ⟨hlt, hjo⟩ := Array.getElem?_eq_some_iff.1 hj
      rw [← hjo]; exact Array.getElem_mem_toList hlt
    have h' : SR w0 F0 A n st a { w with drawn := w.drawn + 1 } G := by
      have := h.world (w' := { w with drawn := w.drawn + 1 }) (fun _ => False) (fun _ h => h.elim) ⟨rfl, rfl, rfl, Nat.le_refl _, fun _ _ _ => rfl⟩ (Fr' := G.Fr) ⟨fun _ => Nat.le_refl _, fun _ _ _ _ h => h, fun _ _ h => h, fun _ cs _ _ h => ⟨cs, h⟩⟩ (fun _ _ _ => rfl) h.fresh h.heap.ids
      exact this
    exact wp_region_any hm (wpAny_of_X _ _ _ _ _ _ (draw_sound hcl hsel hQp (fun j oj _ hl => by simp [Array.getElem?_replicate] at hl; split at hl <;> simp at hl) hc hg hp hr h' hQ))

end Go.Proofs.YticoldgiebmmgaaGreatDoor.Abs
