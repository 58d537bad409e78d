/- The machine's runs of the operations with iterators, made rows and copies. -/
import Derived.Test.YtjlioidknhdceaaDoorA18
import Derived.Laws.MakeOwn
namespace Go.Proofs.YtjlioidknhdceaaDoor.Abs
set_option linter.all false
set_option linter.unusedVariables false

variable {P : Program} {w w' : World} {G G' : Gh} {a : Act} {o : Oper}
variable {w0 : World} {F0 : FT} {A : Nat → Prop} {n : Nat} {st : St} {β : Type}

theorem run_newObj' (o : Go.Obj) (w : World) : (newObj o).run P w = .ok w.heap.size (w.alloc o) := rfl
theorem run_getIter {b : Nat} {s : ByteArray} {pos : Nat} (hb : w.heap[b]? = some (.stringIter s pos)) : (getObj b).run P w = .ok (.stringIter s pos) w := by
  unfold getObj; unfold Sem.run; rw [hb]; rfl
def putObj (w : World) (b : Nat) (o : Go.Obj) : World := { w with heap := w.heap.setIfInBounds b o }
theorem run_setIter {b : Nat} {s : ByteArray} {pos : Nat} (hb : w.heap[b]? = some (.stringIter s pos)) (o : Go.Obj) : (setObj b o).run P w = .ok () (putObj w b o) := by
  unfold setObj; unfold Sem.run; rw [hb]; rfl

theorem runs_range {t : TypeId} {x : Operand} (ho : o.op = .range t x) (hk : tkind P t = some 2) {s : ByteArray} (hx : a.eval x = .string s) :
    Runs P o a w (.pointer (some ⟨w.heap.size, 0, none⟩)) (w.alloc (.stringIter s 0)) := by
  simp only [Runs, execOp, ho, hx, Instr.range, Sem.run_bind, run_underlying (tkind_2 hk), Result.andThen_ok, Sem.run_pure, run_newObj']

theorem runs_next {x : Operand} (ho : o.op = .next x true) {b : Nat} (hx : a.eval x = .pointer (some ⟨b, 0, none⟩)) {s : ByteArray} {pos : Nat} (hb : w.heap[b]? = some (.stringIter s pos)) :
    Runs P o a w (if pos < s.size then .tuple #[.bool true, goInt pos, .int .i32 (Utf8.decode s pos).1] else .tuple #[.bool false])
      (if pos < s.size then putObj w b (.stringIter s (pos + (Utf8.decode s pos).2)) else w) := by
  by_cases hp : pos < s.size
  · simp only [Runs, execOp, ho, hx, Instr.next, Sem.run_bind, run_getIter hb, Result.andThen_ok, if_pos hp, run_setIter hb, Sem.run_pure]
  · simp only [Runs, execOp, ho, hx, Instr.next, Sem.run_bind, run_getIter hb, Result.andThen_ok, if_neg hp, Sem.run_pure]

theorem putObj_other (w : World) {b b' : Nat} (o : Go.Obj) (h : b' ≠ b) : (putObj w b o).heap[b']? = w.heap[b']? := by
  simp only [putObj]; rw [Array.getElem?_setIfInBounds_ne (Ne.symm h)]
theorem putObj_same (w : World) {b : Nat} (o : Go.Obj) (h : b < w.heap.size) : (putObj w b o).heap[b]? = some o := by simp [putObj, h]
theorem putObj_size (w : World) (b : Nat) (o : Go.Obj) : (putObj w b o).heap.size = w.heap.size := by simp [putObj]
theorem kp_putObj {b : Nat} (hk : Kp w0 A w) (hg : A b ∨ w0.heap.size ≤ b) (o : Go.Obj) : Kp w0 A (putObj w b o) :=
  ⟨hk.os, hk.tape, hk.output, by rw [putObj_size]; exact hk.size, fun b' hb hA => by
    rw [putObj_other w o (fun e => by subst e; rcases hg with h | h; { exact hA h }; { omega })]
    exact hk.block b' hb hA⟩
theorem ext_putObj {b : Nat} (h : G.Fr b = 0) (o : Go.Obj) : Ext w G.Fr (putObj w b o) G.Fr :=
  ⟨fun _ => Nat.le_refl _, fun b' o' v ho hv => by
    have hne : b' ≠ b := fun e => by subst e; omega
    rw [← hv]; exact World.cell?_of_block (a := ⟨b', o', none⟩) (putObj_other w o hne), fun _ _ h => h, fun b' vs e h1 h2 => ⟨vs, by
    have hne : b' ≠ b := fun e => by subst e; omega
    rw [putObj_other w o hne]; exact h2⟩⟩

theorem SR.iterSet (h : SR w0 F0 A n st a w G) {s : K} {l : List UInt8} {pos : Nat} (hs : st.at s = some (.iter l pos)) {t : Th} (hg : G.at s = some t) {s' : ByteArray} (hl : s'.data.toList = l) (pos' : Nat) :
    SR w0 F0 A n (st.setAt s (.iter l pos')) a (putObj w t.b (.stringIter s' pos')) G := by
  obtain ⟨t', h1, h2, h3, j1, s1, j2, j3⟩ := h.at hs
  rw [hg] at h1; injection h1 with h1; subst h1
  have hmine := h.mine t.b (by rw [h2]; simp)
  have hx : Ext w G.Fr (putObj w t.b (.stringIter s' pos')) G.Fr := ext_putObj j1 _
  refine h.setBox (G' := G) hs hx rfl rfl (fun p _ hp b hb _ => ⟨putObj_other w _ (fun e => by subst e; exact hp (hb.symm.trans h2)), rfl, hb⟩) ⟨t, hg, h2, by rw [putObj_size]; exact h3, j1, s', putObj_same w _ h3, hl⟩
    (kp_putObj h.kept hmine.2 _) (fun b hb => by rw [putObj_size]; exact h.mine b hb) h.same (fun b hb => h.fresh b (by rw [putObj_size] at hb; exact hb))

theorem decode_list {s : ByteArray} {l : List UInt8} (h : s.data.toList = l) : (⟨l.toArray⟩ : ByteArray) = s := by
  subst h; cases s; simp

theorem next_sound (h : SR w0 F0 A n st a w G) {x : Operand} (ho : o.op = .next x true) {p : Nat → Pos} {pv : AV} (hp : TR w G p pv (a.eval x)) {v : AV} {st' : St} (hr : nextV pv st = some (v, st')) :
    ∃ v' w', Runs P o a w v' w' ∧ SR w0 F0 A n st' a w' G ∧ ∀ d, TR w' G (.slot d) v v' := by
  unfold nextV at hr
  split at hr
  · rename_i k
    simp only [Option.bind_eq_some_iff] at hr
    obtain ⟨ob, hs, hr⟩ := hr
    split at hr
    · rename_i l pos
      injection hr with hr; injection hr with hr1 hr2; subst hr1; subst hr2
      obtain ⟨t, h1, h2, h3, j1, s1, j2, j3⟩ := h.at hs
      obtain ⟨t0, ht0, hpe⟩ := TR_ptr hp
      rw [h1] at ht0; injection ht0 with ht0; subst ht0
      have hrun := runs_next (P := P) ho hpe j2
      have hsz : s1.size = l.length := by rw [size_list, j3]
      unfold iterNext
      rw [decode_list j3]
      by_cases hlt : pos < l.length
      · rw [if_pos (by rw [hsz]; exact hlt), if_pos (by rw [hsz]; exact hlt)] at hrun
        rw [if_pos hlt]
        refine ⟨_, _, hrun, h.iterSet hs h1 j3 _, fun d => ⟨_, rfl, rfl, fun j hj hj' => ?_⟩⟩
        simp only [List.length_cons, List.length_nil] at hj
        have hj3 : j = 0 ∨ j = 1 ∨ j = 2 := by omega
        rcases hj3 with rfl | rfl | rfl
        · exact CR.bool _
        · exact CR.int _ _
        · exact CR.int _ _
      · rw [if_neg (by rw [hsz]; exact hlt), if_neg (by rw [hsz]; exact hlt)] at hrun
        rw [if_neg hlt]
        refine ⟨_, _, hrun, by rw [St.setAt_self hs]; exact h, fun d => ⟨_, rfl, rfl, fun j hj hj' => ?_⟩⟩
        simp only [List.length_cons, List.length_nil] at hj
        obtain rfl : j = 0 := by omega
        exact CR.bool _
    · cases hr
  · cases hr

/-! ### Made rows -/
theorem repCells_prefix {m c : Nat} {z : List AV} (hz : 0 < z.length) (h : m ≤ c) (i : Nat) (hi : i < m * z.length) : (repCells m z)[i]? = (repCells c z)[i]? := by
  rw [(repCells_get (k := m) hz).2 i hi, (repCells_get (k := c) hz).2 i (Nat.lt_of_lt_of_le hi (Nat.mul_le_mul_right _ h))]

theorem made_cells {Fr : FT} {c m sz : Nat} {z : List AV} {zv : Array Value} (h : RowR w Fr z zv) (hl : z.length = sz) (hsz : 0 < sz) (hm : m ≤ c) :
    ∀ i (h1 : i < (repCells m z).length) (h2 : i < (madeCells zv (c * sz)).size), ((madeCells zv (c * sz))[i]).oneCell' = true ∧ CR w Fr (repCells m z)[i] (madeCells zv (c * sz))[i] := by
  intro i h1 h2
  obtain ⟨k1, k2⟩ := zeros_RowR (k := c) h hl hsz
  have hr := (repCells_get (k := c) (z := z) (by omega)).1
  have hrm := (repCells_get (k := m) (z := z) (by omega)).1
  have hi : i < m * z.length := by rw [← hrm]; exact h1
  have hic : i < (repCells c z).length := by rw [hr]; exact Nat.lt_of_lt_of_le hi (Nat.mul_le_mul_right _ hm)
  have e := repCells_prefix (z := z) (by omega) hm i hi
  rw [List.getElem?_eq_getElem h1, List.getElem?_eq_getElem hic] at e
  injection e with e
  rw [e]
  exact k2 i hic h2

theorem mk_sound (h : SR w0 F0 A n st a w G) {t e : TypeId} {sz by' : Nat} {x c : Operand} (ho : o.op = .makeSlice t x c) (ht : telem P t = some (e, sz, by')) {z : AV} (hz : tzero P e = some z) (hzl : z.cells.length = sz)
    {p q : Nat → Pos} {xv cv : AV} (hx : TR w G p xv (a.eval x)) (hc : TR w G q cv (a.eval c)) {obj : Bool} {v : AV} {st' : St} (hr : mkV obj e sz by' z.cells xv cv st = some (v, st')) (qs : Nat → Pos) (hqs : qs 0 ≠ .free) :
    ∃ v' w' G', Runs P o a w v' w' ∧ SR w0 F0 A n st' a w' G' ∧ TR w' G' qs v v' ∧ (obj = false → G'.β = G.β ∧ Ext w G.Fr w' G'.Fr ∧ st' = st ∧ ∃ ob, w' = w.alloc ob) := by
  obtain ⟨hu, i, zv, hi, hiz, his, hib, hzs, hpos⟩ := telem_inv ht
  obtain ⟨i', zv', hi', hiz', hof⟩ := tzero_inv hz
  rw [hi] at hi'; injection hi' with hi'; subst hi'
  rw [hiz] at hiz'; injection hiz' with hiz'; subst hiz'
  have hrow := cells_RowR (ofConst_CR (w := w) (Fr := G.Fr) hof)
  simp only [mkV, Option.map_eq_some_iff] at hr
  obtain ⟨⟨m, cc⟩, hmn, hr⟩ := hr
  unfold mkN at hmn
  split at hmn
  · rename_i k1 mi k2 ci
    split at hmn
    · rename_i hcond
      obtain ⟨rfl, rfl, c1, c2, c3, c4⟩ := hcond
      injection hmn with hmn; injection hmn with hm1 hm2
      have hmc : m ≤ cc := by omega
      have hcm : cc ≤ maxLen := by simp only [maxLen, tooLong] at *; omega
      have hrun : Runs P o a w (.slice (some ⟨w.heap.size, 0, none⟩) m cc) (w.alloc (.cells (madeCells zv.cells (cc * sz)) e)) := by
        have := run_make (P := P) w t e i zv hu hi hiz .i64 .i64 mi ci c1 c2 (by rw [hib]; simp only [tooLong] at c3; omega) (by simp only [tooLong] at c4; omega)
        rw [hm1, hm2, his] at this
        simp only [Runs, execOp, ho, TR_int hx, TR_int hc, Sem.run_bind, this, Result.andThen_ok, Sem.run_pure]
      have hlen : (repCells m z.cells).length = m * sz := by rw [(repCells_get (k := m) (z := z.cells) (by omega)).1, hzl]
      have hms : (madeCells zv.cells (cc * sz)).size = cc * sz := size_madeCells _ _
      have hle : m * sz ≤ cc * sz := Nat.mul_le_mul_right _ hmc
      have hx0 : Ext w G.Fr (w.alloc (.cells (madeCells zv.cells (cc * sz)) e)) G.Fr := ext_of_kp (kp_alloc w _ (fun _ => False)) (fun _ h => h.elim) h.fresh
      have hcells : ∀ i (h1 : i < (repCells m z.cells).length) (h2 : i < (madeCells zv.cells (cc * sz)).size), ((madeCells zv.cells (cc * sz))[i]).oneCell' = true ∧ CR (w.alloc (.cells (madeCells zv.cells (cc * sz)) e)) G.Fr (repCells m z.cells)[i] (madeCells zv.cells (cc * sz))[i] := fun i h1 h2 => by
        have := made_cells hrow hzl hpos hmc i h1 h2
        exact ⟨this.1, this.2.ext hx0⟩
      have hnew : (w.alloc (.cells (madeCells zv.cells (cc * sz)) e)).heap[w.heap.size]? = some (.cells (madeCells zv.cells (cc * sz)) e) := heap_alloc_new w _
      have hfr : G.Fr w.heap.size = 0 := h.fresh _ (Nat.le_refl _)
      cases obj with
      | true =>
        simp only [if_true, Prod.mk.injEq] at hr
        obtain ⟨hr1, hr2⟩ := hr
        subst hr1; subst hr2
        have hlenc : (repCells cc z.cells).length = cc * sz := by rw [(repCells_get (k := cc) (z := z.cells) (by omega)).1, hzl]
        have hcellsc : ∀ i (h1 : i < (repCells cc z.cells).length) (h2 : i < (madeCells zv.cells (cc * sz)).size), ((madeCells zv.cells (cc * sz))[i]).oneCell' = true ∧ CR (w.alloc (.cells (madeCells zv.cells (cc * sz)) e)) G.Fr (repCells cc z.cells)[i] (madeCells zv.cells (cc * sz))[i] := fun i h1 h2 => by
          have := made_cells hrow hzl hpos (Nat.le_refl cc) i h1 h2
          exact ⟨this.1, this.2.ext hx0⟩
        obtain ⟨G', g1, g2, g3, g4⟩ := h.newObj (ob := .row e sz (some (cc * sz)) (repCells cc z.cells)) (.cells (madeCells zv.cells (cc * sz)) e) e (cc * sz) true
          ⟨hfr, rfl, rfl, hpos, ⟨⟨cc, rfl, hcm⟩, fun N hN => by injection hN⟩, by rw [hlenc]; exact Nat.le_refl _, ⟨cc, hlenc⟩, _, hnew, hms, hcellsc⟩
        exact ⟨_, _, G', hrun, g1, TR_of_CR (.hsl _ _ _ _ _ _ _ _ g2 hpos hmc (fun _ => ⟨rfl, fun _ => by simp⟩)), fun h => by cases h⟩
      | false =>
        simp only [Bool.false_eq_true, if_false, Prod.mk.injEq] at hr
        obtain ⟨hr1, hr2⟩ := hr
        subst hr1; subst hr2
        have h1 := h.alloc (.cells (madeCells zv.cells (cc * sz)) e)
        have hfree := h.new_free (Nat.le_refl w.heap.size)
        have h2 := h1.relabel (b := w.heap.size) (by rw [hfree]; rfl) (by simp) (.inr h.kept.size) (qs 0)
        refine ⟨_, _, _, hrun, h2, TR_of_TC ⟨w.heap.size, by simp [upd], m, (madeCells zv.cells (cc * sz)).toList.take (m * sz), ⟨by rw [List.length_take, Array.length_toList, hms]; omega, .inr ⟨w.heap.size, cc, _, rfl, Nat.zero_le _, hnew, hmc, hcm, hms, rfl⟩⟩, by simp [Value.ownBlock], hpos, by rw [List.length_take, Array.length_toList, hms, hlen]; omega, fun i hi hi' => ?_, by simp only; rw [hfr]; omega, fun _ => hfr⟩ rfl, fun _ => ⟨rfl, hx0, rfl, _, rfl⟩⟩
        have hi2 : i < (madeCells zv.cells (cc * sz)).size := by rw [hms]; omega
        have := hcells i hi hi2
        have e1 : ((madeCells zv.cells (cc * sz)).toList.take (m * sz))[i] = (madeCells zv.cells (cc * sz))[i] := by simp
        rw [e1]; exact this
    · cases hmn
  · cases hmn

/-! ### What is appended or copied -/
theorem more_cells {v : Value} {p : Nat → Pos} {sz : Nat} {ys : List AV} {c : Cls} {e sz' : Nat} (hx : TR w G p (.slice c e sz' ys) v) (hc : c ≠ .hdr) (hz : c = .nil ∨ sz' = sz) (hsz : 0 < sz) :
    (v = .slice none 0 0 ∧ ys = []) ∨ ∃ (ad : Addr) (k cap : Nat) (us : List Value), v = .slice (some ad) k cap ∧ ys.length = k * sz ∧ us.length = ys.length ∧ (∀ j u, us[j]? = some u → w.cell? (ad.add j) = some u) ∧ (∀ u ∈ us, u.oneCell' = true) ∧
      ∀ c (hc : c < ys.length) (hc' : c < us.length), (us[c]).oneCell' = true ∧ CR w G.Fr ys[c] us[c] := by
  obtain ⟨o, k, cap, rfl, hk, hn, hnn⟩ := TR_slice hx
  rcases TR_cells hx hc with ⟨h1, rfl, h3, h4⟩ | ⟨ad, vs, rfl, hs, hcell, hone, hcr, hz0, hlen⟩
  · obtain ⟨e1, e2⟩ := hn h1; exact .inl ⟨e1, e2⟩
  · rcases hz with hz | hz
    · obtain ⟨e1, _⟩ := hn hz; cases e1
    · subst hz
      have hul : (List.ofFn fun i : Fin ys.length => vs i).length = ys.length := by simp
      refine .inr ⟨ad, k, cap, List.ofFn fun i : Fin ys.length => vs i, rfl, hlen, hul, fun j u hj => ?_, fun u hu => ?_, fun c hc hc' => ?_⟩
      · obtain ⟨hj', hju⟩ := List.getElem?_eq_some_iff.1 hj
        rw [hul] at hj'
        rw [List.getElem_ofFn] at hju
        rw [add_off ad (hs (by omega)), ← hju]; exact hcell j hj'
      · obtain ⟨i, hi⟩ := List.mem_ofFn.1 hu
        rw [← hi]; exact hone i i.2
      · rw [List.getElem_ofFn]; exact ⟨hone c hc, hcr c hc⟩

theorem more_hsl (h : SR w0 F0 A n st a w G) {v : Value} {p : Nat → Pos} {i k e sz m : Nat} {ys : List AV} (hx : TR w G p (.hsl i k e sz m) v) (hc : hcells st.h i k (m * sz) = some ys) :
    ∃ (ad : Addr) (cap : Nat) (us : List Value), v = .slice (some ad) m cap ∧ ys.length = m * sz ∧ us.length = ys.length ∧ (∀ j u, us[j]? = some u → w.cell? (ad.add j) = some u) ∧ (∀ u ∈ us, u.oneCell' = true) ∧
      ∀ c (hc : c < ys.length) (hc' : c < us.length), (us[c]).oneCell' = true ∧ CR w G.Fr ys[c] us[c] := by
  obtain ⟨ad, cap, vs, hv, hz, hmc, hlen, hs, hcell, hone, hcr⟩ := hcells_sound h.heap hx hc
  have hul : (List.ofFn fun i : Fin ys.length => vs i).length = ys.length := by simp
  refine ⟨ad, cap, List.ofFn fun i : Fin ys.length => vs i, hv, hlen, hul, fun j u hj => ?_, fun u hu => ?_, fun c hc hc' => ?_⟩
  · obtain ⟨hj', hju⟩ := List.getElem?_eq_some_iff.1 hj
    rw [hul] at hj'
    rw [List.getElem_ofFn] at hju
    rw [add_off ad (hs (by omega)), ← hju]; exact hcell j hj' w (Pres.refl _ _ _)
  · obtain ⟨i, hi⟩ := List.mem_ofFn.1 hu
    rw [← hi]; exact hone i i.2
  · rw [List.getElem_ofFn]; exact ⟨hone c hc, hcr c hc⟩

theorem src_sound (h : SR w0 F0 A n st a w G) {v : Value} {p : Nat → Pos} {yv : AV} (hx : TR w G p yv v) {sz : Nat} (hsz : 0 < sz) {str : Bool} (h1 : str = true → sz = 1) {ys : List AV} (hm : moreV st.h sz str yv = some ys) :
    ∃ (L : Nat) (us : List Value), (Builtin.lenOf v).run P w = .ok L w ∧ ys.length = L * sz ∧ us.length = ys.length ∧ (∀ c (hc : c < ys.length) (hc' : c < us.length), (us[c]).oneCell' = true ∧ CR w G.Fr ys[c] us[c]) ∧
      ∀ cnt, cnt ≤ L → (Builtin.firstCells sz cnt v).run P w = .ok (us.take (cnt * sz)).toArray w := by
  have slice : ∀ {ad : Addr} {k cap : Nat} {us : List Value}, v = .slice (some ad) k cap → ys.length = k * sz → us.length = ys.length → (∀ j u, us[j]? = some u → w.cell? (ad.add j) = some u) →
      (∀ c (hc : c < ys.length) (hc' : c < us.length), (us[c]).oneCell' = true ∧ CR w G.Fr ys[c] us[c]) → ∃ (L : Nat) (us : List Value), (Builtin.lenOf v).run P w = .ok L w ∧ ys.length = L * sz ∧ us.length = ys.length ∧ (∀ c (hc : c < ys.length) (hc' : c < us.length), (us[c]).oneCell' = true ∧ CR w G.Fr ys[c] us[c]) ∧
      ∀ cnt, cnt ≤ L → (Builtin.firstCells sz cnt v).run P w = .ok (us.take (cnt * sz)).toArray w := by
    intro ad k cap us e1 e2 e3 e4 e5
    subst e1
    refine ⟨k, us, rfl, e2, e3, e5, fun cnt hcnt => ?_⟩
    have hle : cnt * sz ≤ k * sz := Nat.mul_le_mul_right _ hcnt
    have := run_loadCells_list (P := P) w ad (us.take (cnt * sz)) (fun j u hj => by
      rw [List.getElem?_take] at hj
      split at hj
      · exact e4 j u hj
      · cases hj)
    rw [List.length_take, Nat.min_eq_left (by omega)] at this
    exact this
  unfold moreV at hm
  split at hm
  · rename_i c e sz' ys'
    split at hm
    · rename_i hcond
      injection hm with hm; subst hm
      rcases more_cells hx hcond.2.1 hcond.2.2 hsz with ⟨rfl, e2⟩ | ⟨ad, k, cap, us, e1, e2, e3, e4, e5, e6⟩
      · subst e2
        refine ⟨0, [], rfl, by simp, rfl, fun c hc => absurd hc (by simp), fun cnt hcnt => ?_⟩
        obtain rfl : cnt = 0 := by omega
        simp [Builtin.firstCells]
      · exact slice e1 e2 e3 e4 e6
    · cases hm
  · rename_i i k e sz' m
    split at hm
    · rename_i hcond
      obtain ⟨_, rfl⟩ := hcond
      obtain ⟨ad, cap, us, e1, e2, e3, e4, e5, e6⟩ := more_hsl h hx hm
      exact slice e1 e2 e3 e4 e6
    · cases hm
  · rename_i l
    split at hm
    · rename_i hs
      injection hm with hm; subst hm
      obtain rfl := h1 hs
      obtain ⟨t, rfl, htl⟩ := TR_str hx
      have hsz' : t.size = l.length := by rw [size_list, htl]
      refine ⟨t.size, t.data.toList.map fun b => .int .u8 b.toNat, rfl, by simp [byteCells, hsz'], by simp [byteCells, htl], fun c hc hc' => ?_, fun cnt hcnt => ?_⟩
      · subst htl
        simp [byteCells, Value.oneCell']
        exact .int _ _
      · simp only [Builtin.firstCells, Sem.run_pure, Nat.mul_one]
        congr 1
        apply Array.toList_inj.1
        simp [ByteArray.data_extract]
    · cases hm
  · cases hm

theorem run_copy {dT sT ty elem : TypeId} {sz : Nat} (hu : P.underlying dT = some (.slice elem)) (hs : tsize P elem = some sz) {o : Option Addr} {dLen dCap L cnt : Nat} {src : Value} {us : Array Value}
    (hL : (Builtin.lenOf src).run P w = .ok L w) (hcnt : cnt = min L dLen) (hf : (Builtin.firstCells sz cnt src).run P w = .ok us w)
    (hst : match o with | none => w' = w | some ad => (storeCells ad us.toList).run P w = .ok () w') :
    (Builtin.copy_ #[dT, sT] ty #[.slice o dLen dCap, src]).run P w = .ok (goInt cnt) w' := by
  have hmin : Nat.min L dLen = cnt := hcnt.symm
  cases o with
  | none =>
    simp only at hst; subst hst
    simp [Builtin.copy_, run_underlying hu, hL, run_sizeOf' hs, hmin, hf]
  | some ad =>
    simp only at hst
    simp [Builtin.copy_, run_underlying hu, hL, run_sizeOf' hs, hmin, hf, hst]

theorem splice_nil (xs : List AV) (k : Nat) : splice xs k [] = xs := by simp [splice]

theorem cp_sound (h : SR w0 F0 A n st a w G) {t u e : TypeId} {sz by' : Nat} {x y : Operand} {args : Array Operand} {ats : Array TypeId} (ho : o.op = .call ⟨.builtin .copy, args, ats⟩) (h1 : args.toList = [x, y]) (h2 : ats.toList = [t, u])
    (ht : telem P t = some (e, sz, by')) {p q : Nat → Pos} {dv yv : AV} (hx : TR w G p dv (a.eval x)) (hy : TR w G q yv (a.eval y)) {str : Bool} (hstr : str = true → sz = 1) {v : AV} {st' : St} (hr : cpRow sz str dv yv st = some (v, st')) :
    ∃ v' w', Runs P o a w v' w' ∧ SR w0 F0 A n st' a w' G ∧ CR w' G.Fr v v' := by
  obtain ⟨hu, i0, zv, hi0, _, his, _, _, hpos⟩ := telem_inv ht
  have hsize : tsize P e = some sz := by simp [tsize, hi0, his]
  have fin : ∀ {v' : Value} {w' : World}, (Builtin.copy_ #[t, u] o.type #[a.eval x, a.eval y]).run P w = .ok v' w' → Runs P o a w v' w' := fun hh => by
    obtain rfl := arr2 h1
    obtain rfl := arr2 h2
    simp [Runs, execOp, ho, resolve, invoke, builtin, hh]
  unfold cpRow at hr
  split at hr
  · rename_i i k e' sz' m
    split at hr
    · rename_i hss; subst hss
      simp only [Option.bind_eq_some_iff] at hr
      obtain ⟨ys, hys, hr⟩ := hr
      obtain ⟨cap, ad, th, hat, hv, hz, hmc, ha⟩ := TR_hsl hx
      obtain ⟨L, us, s1, s2, s3, s4, s5⟩ := src_sound (P := P) h hy hpos hstr hys
      have hLd : ys.length / sz' = L := by rw [s2, Nat.mul_div_cancel _ hpos]
      rw [hLd] at hr
      have hcl : min L m ≤ L := Nat.min_le_left _ _
      have hcm : min L m ≤ m := Nat.min_le_right _ _
      generalize hcnt : min L m = cnt at hr hcl hcm
      have hce : cnt * sz' ≤ ys.length := by rw [s2]; exact Nat.mul_le_mul_right _ hcl
      have hcme : cnt * sz' ≤ m * sz' := Nat.mul_le_mul_right _ hcm
      have hul : (us.take (cnt * sz')).toArray.size = (ys.take (cnt * sz')).length := by simp [s3]
      have hyl : (ys.take (cnt * sz')).length = cnt * sz' := by rw [List.length_take]; omega
      have hrel : ∀ c (hc : c < (ys.take (cnt * sz')).length) (hc' : c < (us.take (cnt * sz')).toArray.size), ((us.take (cnt * sz')).toArray[c]).oneCell' = true ∧ CR w G.Fr (ys.take (cnt * sz'))[c] (us.take (cnt * sz')).toArray[c] := fun c hc hc' => by
        have := s4 c (by rw [hyl] at hc; omega) (by rw [s3]; rw [hyl] at hc; omega)
        simpa using this
      have hrun0 : ∀ {w' : World}, (storeCells ad (us.take (cnt * sz'))).run P w = .ok () w' → Runs P o a w (goInt cnt) w' := fun hst => fin (by
        rw [hv]
        exact run_copy (o := some ad) hu hsize s1 hcnt.symm (s5 cnt hcl) (by simpa using hst))
      -- a memory that is written
      have main : ∀ (cur : Array Value) (e1 : Nat) (N : Nat), w.heap[th.b]? = some (.cells cur e1 (0, 0)) → k + m * sz' ≤ cur.size → 0 < cnt * sz' → Runs P o a w (goInt cnt) (w.setRow th.b (arrPut cur (us.take (cnt * sz')).toArray k)) := fun cur e1 _ hg hle hpos' => by
        have hm0 : 0 < m := by
          rcases Nat.eq_zero_or_pos m with h0 | h0
          · subst h0; simp at hcm; subst hcm; simp at hpos'
          · exact h0
        obtain ⟨rfl, _⟩ := ha (.inr hm0)
        have hlen : (us.take (cnt * sz')).length = cnt * sz' := by rw [List.length_take, s3]; omega
        have := run_storeCells_at P th.b k e1 (us.take (cnt * sz')) 0 cur w hg (by rw [hlen]; omega) (fun v hv => by
          obtain ⟨j, hj, rfl⟩ := List.getElem_of_mem hv
          have := (hrel j (by rw [hyl]; omega) (by simpa using hj)).1
          simpa using this)
        refine hrun0 ?_
        simpa [arrPut] using this
      split at hr
      · rename_i e'' sz'' cp xs hget
        split at hr
        · rename_i hle
          injection hr with hr; injection hr with hr1 hr2; subst hr1; subst hr2
          by_cases h0 : cnt * sz' = 0
          · have e1 : ys.take (cnt * sz') = [] := by rw [h0]; rfl
            have e2 : us.take (cnt * sz') = [] := by rw [h0]; rfl
            refine ⟨goInt cnt, w, hrun0 (by rw [e2]; rfl), ?_, .int _ _⟩
            rw [e1, splice_nil]
            have := St.setAt_self (st := st) (s := .obj i) hget
            simp only [St.setAt] at this
            rw [this]; exact h
          · obtain ⟨t', k1, k2, k3, j1, j2, j3, j4, j5, j6, j7, vs, k4, k5, k6⟩ := h.at (s := .obj i) hget
            rw [hat] at k1; injection k1 with k1; subst k1
            have hm0 : 0 < m := by
              rcases Nat.eq_zero_or_pos m with h1 | h1
              · subst h1; exfalso; apply h0; rw [show cnt = 0 by omega]; simp
              · exact h1
            have hcapN := (ha (.inr hm0)).2 j2
            have hmcap : m * sz' ≤ cap * sz' := Nat.mul_le_mul_right _ hmc
            have hlo : k ≤ xs.length := by rcases hle with h1 | h1 <;> omega
            have hmul : ∃ m', (splice xs k (ys.take (cnt * sz'))).length = m' * sz'' := by
              rw [splice_length2 hlo, hyl]
              rcases hle with h1 | ⟨_, h2, h3⟩
              · obtain ⟨q, hq⟩ := j7
                exact ⟨q, by rw [← hq]; omega⟩
              · subst h3
                rcases Nat.le_total xs.length (k + cnt * sz'') with h4 | h4
                · rw [Nat.max_eq_right h4]
                  exact ⟨k / sz'' + cnt, by rw [Nat.add_mul, Nat.div_mul_cancel (Nat.dvd_of_mod_eq_zero h2)]⟩
                · rw [Nat.max_eq_left h4]; exact j7
            refine ⟨goInt cnt, _, main vs th.e 0 k4 (by rw [k5]; omega) (by omega), h.storeRow (s := .obj i) hget hlo hul hrel hat (fun _ => by rw [hyl]; omega) hmul k4, .int _ _⟩
        · cases hr
      · rename_i xs hget
        split at hr
        · rename_i hle
          injection hr with hr; injection hr with hr1 hr2; subst hr1; subst hr2
          by_cases h0 : cnt * sz' = 0
          · have e1 : ys.take (cnt * sz') = [] := by rw [h0]; rfl
            have e2 : us.take (cnt * sz') = [] := by rw [h0]; rfl
            refine ⟨goInt cnt, w, hrun0 (by rw [e2]; rfl), ?_, .int _ _⟩
            rw [e1, splice_nil]
            have := St.setAt_self (st := st) (s := .obj i) hget
            simp only [St.setAt] at this
            rw [this]; exact h
          · obtain ⟨t', k1, k2, k3, j1, j2, vs, k4, k5, k6⟩ := h.at (s := .obj i) hget
            rw [hat] at k1; injection k1 with k1; subst k1
            refine ⟨goInt cnt, _, main vs th.e 0 k4 (by omega) (by omega), h.store (s := .obj i) hget (by rw [hyl]; omega) hul (fun c hc hc' => ⟨(hrel c hc hc').1, TC_of_CR (hrel c hc hc').2⟩) hat k4, .int _ _⟩
        · cases hr
      · cases hr
    · cases hr
  · rename_i e' sz' xs
    rw [Option.map_eq_some_iff] at hr
    obtain ⟨ys, hys, hr⟩ := hr
    injection hr with hr1 hr2; subst hr1; subst hr2
    obtain ⟨_, _, _, hv, _, hn, _⟩ := TR_slice hx
    obtain ⟨hv', _⟩ := hn rfl
    obtain ⟨L, us, s1, s2, s3, s4, s5⟩ := src_sound (P := P) h hy hpos hstr hys
    refine ⟨goInt 0, w, fin ?_, h, .int _ _⟩
    rw [hv']
    exact run_copy (o := none) (cnt := 0) hu hsize s1 (by omega) (s5 0 (Nat.zero_le _)) rfl
  · cases hr

end Go.Proofs.YtjlioidknhdceaaDoor.Abs
