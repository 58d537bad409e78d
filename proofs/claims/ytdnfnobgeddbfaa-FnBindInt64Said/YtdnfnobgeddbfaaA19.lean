/- Every operation, in a walk. -/
import Derived.Test.YtdnfnobgeddbfaaA18
namespace Go.Proofs.Ytdnfnobgeddbfaa.Abs
set_option linter.all false
set_option linter.unusedVariables false

variable {P : Program} {sg : FuncId → Nat → Bool} {w w' : World} {G G' : Gh} {a : Act} {o : Oper}
variable {w0 : World} {F0 : Nat → Nat} {A : Nat → Prop} {n : Nat} {st : St} {β : Type}
variable {cl : FuncId → List AV → Option AV}

theorem stab_alloc (h : SR w0 F0 A n st a w G) {obj : Obj} (hx : Ext w G.Fr (w.alloc obj) G'.Fr) (hβ : G'.β = G.β) : Stab st.b G w st.b G' (w.alloc obj) :=
  ⟨hx, hβ, fun _ h => h, fun s cs g hs hg => by
    obtain ⟨g', vs, e', k1, k2, k3, k4, k5, k6⟩ := h.boxes s cs hs
    rw [hg] at k1; injection k1 with k1; subst k1
    exact heap_old w obj g (Array.getElem?_eq_some_iff.1 k4).1⟩

theorem more_cells {v : Value} {p : Nat → Pos} {sz : Nat} {ys : List AV} {c : Cls} {e sz' : Nat} (hx : TR w G p (.slice c e sz' ys) v) (hc : c ≠ .hdr) (hz : c = .nil ∨ sz' = sz) (hsz : 0 < sz) :
    (v = .slice none 0 0 ∧ ys = []) ∨ ∃ (ad : Addr) (k cap : Nat) (us : List Value), v = .slice (some ad) k cap ∧ ys.length = k * sz ∧ us.length = ys.length ∧ (∀ j u, us[j]? = some u → w.cell? (ad.add j) = some u) ∧ (∀ u ∈ us, u.oneCell' = true) ∧
      ∀ c (hc : c < ys.length) (hc' : c < us.length), (us[c]).oneCell' = true ∧ CR w G.Fr ys[c] us[c] := by
  obtain ⟨o, k, cap, rfl, hk, hn, hnn⟩ := TR_slice hx
  rcases TR_cells hx hc with ⟨h1, rfl, h3, h4⟩ | ⟨ad, vs, rfl, hs, hcell, hone, hcr, hz0, hlen⟩
  · obtain ⟨e1, e2⟩ := hn h1; exact .inl ⟨e1, e2⟩
  · rcases hz with hz | hz
    · obtain ⟨e1, _⟩ := hn hz; cases e1
    · subst hz
      have hul : (List.ofFn fun i : Fin ys.length => vs i).length = ys.length := by simp
      refine .inr ⟨ad, k, cap, List.ofFn fun i : Fin ys.length => vs i, rfl, hlen, hul, fun j u hj => ?_, fun u hu => ?_, fun c hc hc' => ?_⟩
      · obtain ⟨hj', hju⟩ := List.getElem?_eq_some_iff.1 hj
        rw [hul] at hj'
        rw [List.getElem_ofFn] at hju
        rw [add_off ad (hs (by omega)), ← hju]; exact hcell j hj'
      · obtain ⟨i, hi⟩ := List.mem_ofFn.1 hu
        rw [← hi]; exact hone i i.2
      · rw [List.getElem_ofFn]; exact ⟨hone c hc, hcr c hc⟩

theorem late_sound (hcl : CallOk P cl) (all : List Oper) {x : AOp} (hx : pOp0 P sg all o = some x) (he : x.early = false) (h : SR w0 F0 A n st a w G) {k : AV → St → Option β} {r : β} (hr : opK cl x st k = some r)
    {next : Act → World → Prop} {Q : Exit → Act → World → Prop} (hn : ∀ v' w', Done w0 F0 A n k r a o.dst st G w (x.calm = true) v' w' → next (a.put o.dst v') w') : o.wp P a w next Q := by
  unfold pOp0 at hx
  split at hx
  case h_1 => simp only [Option.map_eq_some_iff] at hx; obtain ⟨_, _, rfl⟩ := hx; simp [AOp.early] at he
  case h_2 => simp only [Option.map_eq_some_iff] at hx; obtain ⟨_, _, rfl⟩ := hx; simp [AOp.early] at he
  case h_3 => simp only [Option.bind_eq_some_iff, Option.map_eq_some_iff] at hx; obtain ⟨_, _, _, _, _, _, rfl⟩ := hx; simp [AOp.early] at he
  case h_8 => simp only [Option.bind_eq_some_iff, Option.map_eq_some_iff] at hx; obtain ⟨_, _, _, _, _, _, rfl⟩ := hx; simp [AOp.early] at he
  case h_10 => simp only [Option.map_eq_some_iff] at hx; obtain ⟨_, _, rfl⟩ := hx; simp [AOp.early] at he
  case h_11 => simp only [Option.bind_eq_some_iff, Option.map_eq_some_iff] at hx; obtain ⟨_, _, _, _, _, _, rfl⟩ := hx; simp [AOp.early] at he
  case h_12 => simp only [Option.map_eq_some_iff] at hx; obtain ⟨_, _, rfl⟩ := hx; simp [AOp.early] at he
  case h_14 =>
    simp only [Option.bind_eq_some_iff] at hx; obtain ⟨_, _, hx⟩ := hx
    split at hx
    · cases hx
    · simp only [Option.map_eq_some_iff] at hx; obtain ⟨_, _, rfl⟩ := hx; simp [AOp.early] at he
  case h_15 =>
    simp only [Option.bind_eq_some_iff] at hx; obtain ⟨_, _, _, _, hx⟩ := hx
    split at hx
    · simp only [Option.bind_eq_some_iff, Option.some.injEq] at hx; obtain ⟨_, _, rfl⟩ := hx; simp [AOp.early] at he
    · simp only [Option.bind_eq_some_iff, Option.map_eq_some_iff] at hx; obtain ⟨_, _, _, _, rfl⟩ := hx; simp [AOp.early] at he
    · cases hx
  case h_16 =>
    simp only [Option.bind_eq_some_iff] at hx; obtain ⟨⟨_, _⟩, _, _, _, hx⟩ := hx
    split at hx
    · cases hx
    · simp only [Option.map_eq_some_iff] at hx; obtain ⟨_, _, rfl⟩ := hx; simp [AOp.early] at he
  case h_17 => simp only [Option.bind_eq_some_iff, Option.map_eq_some_iff] at hx; obtain ⟨⟨_, _⟩, _, _, _, _, _, _, _, rfl⟩ := hx; simp [AOp.early] at he
  case h_18 => simp only [Option.bind_eq_some_iff, Option.map_eq_some_iff] at hx; obtain ⟨⟨_, _, _⟩, _, _, _, _, _, rfl⟩ := hx; simp [AOp.early] at he
  case h_19 =>
    split at hx
    · simp only [Option.bind_eq_some_iff, Option.map_eq_some_iff] at hx; obtain ⟨_, _, _, _, rfl⟩ := hx; simp [AOp.early] at he
    · cases hx
  case h_20 => injection hx with hx; subst hx; simp [AOp.early] at he
  case h_21 =>
    split at hx
    · simp only [Option.bind_eq_some_iff] at hx; obtain ⟨_, _, hx⟩ := hx
      split at hx
      · simp only [Option.map_eq_some_iff] at hx; obtain ⟨_, _, rfl⟩ := hx; simp [AOp.early] at he
      · split at hx
        · simp only [Option.map_eq_some_iff] at hx; obtain ⟨_, _, rfl⟩ := hx; simp [AOp.early] at he
        · cases hx
    · cases hx
  case h_24 => cases hx
  case h_4 t hop =>
    simp only [Option.bind_eq_some_iff, Option.map_eq_some_iff] at hx
    obtain ⟨d, hd, z, hz, rfl⟩ := hx
    obtain ⟨i, v, hi, hiz, hof⟩ := tzero_inv hz
    have hrow := cells_RowR (ofConst_CR (w := w) (Fr := G.Fr) hof)
    obtain ⟨G', h1, h2⟩ := h.newBox d t hrow.1 (fun c hc hc' => ⟨(hrow.2 c hc hc').1, TC_of_CR (hrow.2 c hc hc').2⟩)
    refine (runs_alloc hop hi hiz).wp (hn _ _ ⟨_, _, G', hr, h1, fun d' hd' => ?_, fun hc => by simp [AOp.calm] at hc⟩)
    cases hd.symm.trans hd'; exact h2
  case h_5 t y hop =>
    simp only [Option.bind_eq_some_iff, Option.map_eq_some_iff] at hx
    obtain ⟨d, hd, ay, hy, rfl⟩ := hx
    simp only [opK, obind_eq_some, pln] at hr
    obtain ⟨u, hu, hr⟩ := hr
    split at hu
    · rename_i hpl
      obtain ⟨G1, g1, g2, g3, g4, g5⟩ := h.takeX hy (fun _ => .cell d 0)
      obtain ⟨c1, c2⟩ := cells_TC (p := fun _ => .cell d 0) (s := d) (off := 0) rfl hpl g2
      obtain ⟨G', h1, h2⟩ := g1.newBox d t c1 (fun c hc hc' => by have := c2 c hc hc'; rw [Nat.zero_add] at this; exact this)
      refine (runs_box hop).wp (hn _ _ ⟨_, _, G', hr, h1, fun d' hd' => ?_, fun hc => by simp [AOp.calm] at hc⟩)
      cases hd.symm.trans hd'; exact h2
    · cases hu
  case h_6 t parts hop =>
    simp only [Option.bind_eq_some_iff] at hx
    obtain ⟨z, hz, hx⟩ := hx
    split at hx
    · simp only [Option.bind_eq_some_iff, Option.map_eq_some_iff] at hx
      obtain ⟨pl, hpl, ps, hps, rfl⟩ := hx
      obtain ⟨i, v, hi, hiz, hof⟩ := tzero_inv hz
      have hrow := cells_RowR (ofConst_CR (w := w) (Fr := G.Fr) hof)
      simp only [opK] at hr
      obtain ⟨cs', vs', st', G', e1, e2, e3, e4, e6, e7, e8, e5⟩ := fill_sound hps hr h hrow
      have hfun : (fun (i : Nat) => ((pl[i]?).map fun (q : Nat × Nat × Bool) => (q.1, q.2.1, q.2.2)).map fun (q : Nat × Nat × Bool) => (q.1, q.2.1)) = (fun (i : Nat) => (pl[i]?).map fun (q : Nat × Nat × Bool) => (q.1, q.2.1)) := by
        funext i; cases pl[i]? <;> rfl
      rw [hfun] at e5
      refine (runs_build hop hi hiz hpl e5 w).wp (hn _ _ ⟨_, _, G', e1, e2, fun d _ => TR_of_CR (.agg _ _ e3.1 (fun i hi => (e3.2 i (by rw [← e3.1]; exact hi) hi).1) (fun i hi hi' => (e3.2 i hi hi').2)), fun _ => by rw [e8]; exact Stab.here e7 e6⟩)
    · cases hx
  case h_7 t len parts hop =>
    simp only [Option.bind_eq_some_iff] at hx
    obtain ⟨⟨e, sz, by'⟩, hte, z, hz, hx⟩ := hx
    split at hx
    · rename_i hsm
      obtain ⟨hsm, hzl⟩ := hsm
      simp only at hsm hzl
      simp only [Option.map_eq_some_iff] at hx
      obtain ⟨ps, hps, rfl⟩ := hx
      obtain ⟨hu, i', z', hi', hz', hisz, _, hzs, hpos⟩ := telem_inv hte
      obtain ⟨i, v, hi, hiz, hof⟩ := tzero_inv hz
      have hrow := zeros_RowR (k := len) (cells_RowR (ofConst_CR (w := w) (Fr := G.Fr) hof)) hzl hpos
      simp only [opK] at hr
      obtain ⟨cs', vs', st', G1, e1, e2, e3, e4, e6, e7, e8, e5⟩ := fill_sound hps hr h hrow
      have hcl : cs'.length = len * sz := by rw [e4, (repCells_get (k := len) (z := z.cells) (by omega)).1, hzl]
      obtain ⟨G', k1, k2, k3, k4⟩ := e2.newRow (m := len) e sz hpos hcl e3.1 (by
        have : len ≤ len * sz := Nat.le_mul_of_pos_right _ hpos
        simp only [maxLen]; omega) e3.2 (slotAt o.dst) (by simp [slotAt])
      refine (runs_buildSlice hop hte hi hiz hsm e5 w).wp (hn _ _ ⟨_, _, G', e1, k1, fun d hd => by rw [← slotAt_eq hd]; exact k2, fun _ => ?_⟩)
      rw [e8]; exact stab_alloc h (e7.trans k4) (k3.trans e6)
    · cases hx
  case h_9 t y z hop =>
    simp only [Option.bind_eq_some_iff, Option.map_eq_some_iff] at hx
    obtain ⟨k', hk', ay, hy, az, hz, rfl⟩ := hx
    simp only [opK, obind_eq_some] at hr
    obtain ⟨b', hb', hr⟩ := hr
    obtain ⟨p, hp⟩ := h.peekX hy
    unfold stV at hb'
    split at hb'
    · rename_i site off hpk
      simp only [Option.bind_eq_some_iff] at hb'
      obtain ⟨cs, hcs, hb'⟩ := hb'
      split at hb'
      · rename_i hcond
        injection hb' with hb'; subst hb'
        simp only [Bool.and_eq_true, beq_iff_eq, decide_eq_true_eq] at hcond
        obtain ⟨⟨hpl, hlen⟩, hle⟩ := hcond
        rw [hpk] at hp
        obtain ⟨G1, g1, g2, g3, g4, g5⟩ := h.takeX hz (fun _ => .cell site off)
        obtain ⟨b, hβ, hev⟩ := TR_ptr hp
        obtain ⟨c1, c2⟩ := cells_TC (p := fun _ => .cell site off) (s := site) (off := off) rfl hpl g2
        obtain ⟨g, cur, e, k1, k2, k3, k4, k5, k6⟩ := g1.boxes site cs hcs
        rw [g4, hβ] at k1; injection k1 with k1; subst k1
        have hst := g1.store hcs (by rw [hlen]; exact hle) c1 c2 (by rw [g4]; exact hβ) k4
        have hrun := runs_store (P := P) hop hk' hev k4 (by rw [c1]; exact hlen) (by rw [k5]; exact hle) (fun v hv => by
          obtain ⟨i, hi, rfl⟩ := List.getElem_of_mem hv
          have := (c2 i (by rw [← c1]; simpa using hi) (by simpa using hi)).1
          simpa using this)
        unfold Oper.wp
        rw [hrun, Oper.upon_skip]
        exact hn _ _ ⟨_, _, G1, hr, hst, fun d _ => rfl, fun hc => by simp [AOp.calm] at hc⟩
      · cases hb'
    · cases hb'
  case h_13 s d y hop =>
    split at hx
    · simp only [Option.bind_eq_some_iff, Option.map_eq_some_iff] at hx
      obtain ⟨ay, hy, i, hi, rfl⟩ := hx; simp [AOp.early] at he
    · rename_i hs hd
      simp only [Option.bind_eq_some_iff] at hx
      obtain ⟨ay, hy, ⟨e, sz, by'⟩, hte, hx⟩ := hx
      split at hx
      · injection hx with hx; subst hx; simp [AOp.early] at he
      · cases hx
    · rename_i hs hd
      simp only [Option.bind_eq_some_iff] at hx
      obtain ⟨ay, hy, ⟨e, sz, by'⟩, hte, hx⟩ := hx
      split at hx
      · rename_i hc
        obtain ⟨rfl, hu8⟩ := hc
        injection hx with hx; subst hx
        simp only [opK, obind_eq_some] at hr
        obtain ⟨v, hv, hr⟩ := hr
        obtain ⟨p, hp⟩ := h.peekX hy
        unfold cvSB at hv
        split at hv
        · rename_i l hl
          rw [hl] at hp
          obtain ⟨t, ht, htl⟩ := TR_str hp
          split at hv
          · injection hv with hv; subst hv
            obtain ⟨G', k1, k2, k3, k4⟩ := h.bytes e t
            rw [htl] at k2
            refine (runs_convSB hop hs hte hu8 ht).wp (hn _ _ ⟨_, _, G', hr, k1, fun d _ => TR_of_CR k2, fun _ => ⟨k4, k3, fun _ h => h, fun s cs g hs hg => ?_⟩⟩)
            obtain ⟨g', vs, e', j1, j2, j3, j4, j5, j6⟩ := h.boxes s cs hs
            rw [hg] at j1; injection j1 with j1; subst j1
            exact Lib.bytesWorld_at_old w e t g (Array.getElem?_eq_some_iff.1 j4).1
          · cases hv
        · cases hv
      · cases hx
    · simp only [Option.bind_eq_some_iff, Option.some.injEq] at hx
      obtain ⟨ay, hy, rfl⟩ := hx; simp [AOp.early] at he
    · cases hx
  case h_22 args ats hop =>
    split at hx
    · rename_i y z t u ha hta
      simp only [Option.bind_eq_some_iff] at hx
      obtain ⟨⟨e, sz, by'⟩, hte, ay, hy, az, hz, hx⟩ := hx
      have hpos : 0 < sz := by obtain ⟨_, _, _, _, _, _, _, _, h⟩ := telem_inv hte; exact h
      obtain ⟨p, hp⟩ := h.peekX hz
      obtain ⟨G1, g1, g2, g3, g4, g5⟩ := h.takeX hy (fun _ => .mid)
      have fin : ∀ {str : Bool} {v : AV}, apV e sz by' str (take st ay).1 (peek st az) = some v → k v (take st ay).2 = some r → x.calm = x.calm →
          (∀ ys, moreV sz str (peek st az) = some ys → ∃ us kk, ys.length = kk * sz ∧ us.length = ys.length ∧ (∀ c (hc : c < ys.length) (hc' : c < us.length), (us[c]).oneCell' = true ∧ CR w G.Fr ys[c] us[c]) ∧
            ∀ m vs, w.ownsRow 0 e sz (a.eval y) m vs → m + kk ≤ maxLen → (m + kk) * by' ≤ tooLong → ∃ v' w', (Builtin.append_ #[t, u] o.type #[a.eval y, a.eval z]).run P w = .ok v' w' ∧ AppR w e sz (a.eval y) m vs us v' w' kk) →
          o.wp P a w next Q := by
        intro str v hv hk _ hmore
        unfold apV at hv
        split at hv
        · rename_i c e' sz' xs heq
          simp only [Option.bind_eq_some_iff] at hv
          obtain ⟨ys, hys, hv⟩ := hv
          obtain ⟨us, kk, m1, m2, m3, m4⟩ := hmore ys hys
          obtain ⟨v', w', G', r1, r2, r3, r4, r5, r6⟩ := app_sound g1 g2 (t := t) (u := u) (ty := o.type) (yv := a.eval z) (by' := by') hpos m1 m2 (fun c hc hc' => ⟨(m3 c hc hc').1, (m3 c hc hc').2.ext g5⟩) (r := v) m4 (by rw [heq]; exact hv) (slotAt o.dst) (by simp [slotAt])
          refine (runs_append hop ha hta r1).wp (hn _ _ ⟨v, _, G', hk, r2, fun d hd => by rw [← slotAt_eq hd]; exact r3, fun _ => ⟨g5.trans r4, r6.trans g4, fun s hs => by rw [take_b]; exact hs, fun s cs g hs hg => ?_⟩⟩)
          obtain ⟨g', vs, e'', j1, j2, j3, j4, j5, j6⟩ := g1.boxes s cs (by rw [take_b]; exact hs)
          rw [g4, hg] at j1; injection j1 with j1; subst j1
          exact (r5 g (by rw [j2]; intro e; cases e) (Array.getElem?_eq_some_iff.1 j4).1).1
        · cases hv
      split at hx
      · rename_i htu
        injection hx with hx; subst hx; subst htu
        simp only [opK, obind_eq_some] at hr
        obtain ⟨v, hv, hk⟩ := hr
        refine fin hv hk rfl (fun ys hys => ?_)
        unfold moreV at hys
        split at hys
        · rename_i c e' sz' ys' hpk
          split at hys
          · rename_i hcond
            obtain ⟨_, hc1, hc2⟩ := hcond
            injection hys with hys; subst hys
            rw [hpk] at hp
            rcases more_cells hp hc1 hc2 hpos with ⟨e1, e2⟩ | ⟨ad, kk, cap, us, e1, e2, e3, e4, e5, e6⟩
            · subst e2
              refine ⟨[], 0, by simp, rfl, fun c hc => absurd hc (by simp), fun m vs ho _ _ => ?_⟩
              rw [e1]; exact run_app_nil hte ho
            · refine ⟨us, kk, e2, e3, e6, fun m vs ho h1 h2 => ?_⟩
              rw [e1]; exact run_app_slice hte ho (by rw [e3]; exact e2) e4 e5 h1 h2
          · cases hys
        · rename_i hpk
          simp at hys
        · cases hys
      · split at hx
        · rename_i hcond
          obtain ⟨rfl, rfl, hku, hu8, hzb⟩ := hcond
          injection hx with hx; subst hx
          simp only [opK, obind_eq_some] at hr
          obtain ⟨v, hv, hk⟩ := hr
          refine fin hv hk rfl (fun ys hys => ?_)
          unfold moreV at hys
          split at hys
          · simp at hys
          · rename_i l hpk
            simp only [if_true, Option.some.injEq] at hys
            subst hys
            rw [hpk] at hp
            obtain ⟨t', ht', htl⟩ := TR_str hp
            have hsz : t'.size = l.length := by rw [size_list, htl]
            refine ⟨Lib.strCells t', t'.size, by simp [byteCells, hsz], by simp [byteCells, hsz, Lib.strCells_length], fun c hc hc' => ?_, fun m vs ho h1 h2 => ?_⟩
            · subst htl; simp only [byteCells, List.length_map] at hc
              simp [Lib.strCells, byteCells, Value.oneCell']
              exact .int _ _
            · rw [ht']; exact run_app_str hte hku hzb ho h1 (by simpa [tooLong] using h2)
          · cases hys
        · cases hx
    · cases hx
  case h_23 f args ats hop =>
    simp only [Option.map_eq_some_iff] at hx
    obtain ⟨ps, hps, rfl⟩ := hx
    simp only [opK] at hr
    obtain ⟨vs, st', G1, e1, e2, e3, e4, e5, e6, e7, e8⟩ := args_sound hps hr h
    simp only [obind_eq_some] at e1
    obtain ⟨v, hv, hk⟩ := e1
    have hrun : (execOp a.eval o).run P w = (callFunc f (args.map a.eval)).run P w := by
      simp [execOp, hop, resolve, Act.eval, invoke, Deferred.ofValue]
    have main : ∀ {e : Ending} {w'' : World}, CallPost w G1.Fr (argOwn G1.ω) v e w'' → ∃ v', e = .returned v' ∧ next (a.put o.dst v') w'' := by
      intro e w'' hp
      obtain ⟨v', G', he', hS, hT, hSt⟩ := e2.called hp o.dst
      subst he'
      refine ⟨v', rfl, hn _ _ ⟨v, st', G', hk, hS, fun d hd => by rw [← slotAt_eq hd]; exact hT, fun _ => ?_⟩⟩
      have h1 : Stab st.b G w st'.b G1 w := by rw [e8]; exact Stab.here e7 e6
      exact ⟨h1.ext.trans hSt.ext, hSt.β.trans h1.β, fun s hs => hSt.dom s (h1.dom s hs), fun s cs g hs hg => hSt.box s cs g (by rw [e8]; exact hs) (by rw [e6]; exact hg)⟩
    unfold Oper.wp
    rw [hrun]
    rcases hcl f vs v hv w G1 (args.map a.eval) (by simp [e3]) (fun i hi hi' => by
      have := e4 i hi (by rw [← e3]; exact hi)
      simpa using this) (fun b i hb => (e2.mine b (by rw [hb]; simp)).1) e2.fresh with ⟨v1, w1, r1, r2⟩ | ⟨g, r1, r2⟩
    · rw [r1]
      obtain ⟨v', e', hh⟩ := main r2
      injection e' with e'; subst e'
      exact hh
    · rw [r1, Oper.upon_enter]
      refine Calls.mono r2 (fun e w'' hp => ?_)
      obtain ⟨v', he', hh⟩ := main hp
      subst he'; exact hh

/-- Any operation. -/
theorem op_sound (hcl : CallOk P cl) (all : List Oper) {x : AOp} (hx : pOp0 P sg all o = some x) (h : SR w0 F0 A n st a w G) {k : AV → St → Option β} {r : β} (hr : opK cl x st k = some r)
    {next : Act → World → Prop} {Q : Exit → Act → World → Prop} (hn : ∀ v' w', Done w0 F0 A n k r a o.dst st G w (x.early = true ∨ x.calm = true) v' w' → next (a.put o.dst v') w') : o.wp P a w next Q := by
  cases he : x.early with
  | true =>
    obtain ⟨v', v, st', G', h1, h2, h3, h4, hR⟩ := early_sound cl all hx he h hr
    exact (hR w (Pres.refl _ _ _)).wp (hn _ _ ⟨v, st', G', h1, h2, h3, fun _ => h4⟩)
  | false =>
    refine late_sound hcl all hx he h hr fun v' w' ⟨v, st', G', h1, h2, h3, h4⟩ => hn _ _ ⟨v, st', G', h1, h2, h3, fun hc => h4 ?_⟩
    rcases hc with hc | hc
    · rw [he] at hc; cases hc
    · exact hc

end Go.Proofs.Ytdnfnobgeddbfaa.Abs
