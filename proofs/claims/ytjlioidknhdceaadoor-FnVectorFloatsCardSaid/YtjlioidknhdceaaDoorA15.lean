/- Stores, conversions of texts to bytes, appends: what they leave. -/
import Derived.Test.YtjlioidknhdceaaDoorA14
namespace Go.Proofs.YtjlioidknhdceaaDoor.Abs
set_option linter.all false
set_option linter.unusedVariables false

variable {P : Program} {w w' : World} {G G' : Gh} {a : Act} {o : Oper}
variable {w0 : World} {F0 : FT} {A : Nat → Prop} {n : Nat} {st : St} {β : Type}

/-! ### Stores -/

theorem cells_TC {p : Nat → Pos} {s : K} {off : Nat} (hp : p 0 = .cell s off) {x : AV} {v : Value} (hpl : x.plain = true) (h : TR w G p x v) :
    v.cells.size = x.cells.length ∧ ∀ c (hc : c < x.cells.length) (hc' : c < v.cells.size), (v.cells[c]).oneCell' = true ∧ TC w G (.cell s (off + c)) x.cells[c] v.cells[c] := by
  by_cases hown : x.isOwn = true
  · cases x with
    | slice c e sz xs => cases c with
      | own f =>
        have h' := TC_of_TR h rfl
        obtain ⟨b, hb, hO⟩ := h'
        obtain ⟨oo, m, cap, rfl, _⟩ := TR_slice h
        refine ⟨rfl, fun c hc hc' => ?_⟩
        obtain rfl : c = 0 := by simp [AV.cells] at hc; exact hc
        exact ⟨rfl, b, by rw [hb, hp]; simp, hO⟩
      | _ => simp [AV.isOwn] at hown
    | _ => simp [AV.isOwn] at hown
  · have hC := CR_of_TC (TC_of_TR h hpl) (by simpa using hown)
    obtain ⟨h1, h2⟩ := cells_RowR hC
    exact ⟨h1, fun c hc hc' => ⟨(h2 c hc hc').1, TC_of_CR (h2 c hc hc').2⟩⟩

def arrPut (cur us : Array Value) (off : Nat) : Array Value := (cur.toList.take off ++ us.toList ++ cur.toList.drop (off + us.toList.length)).toArray
theorem arrPut_size {cur us : Array Value} {off : Nat} (h : off + us.size ≤ cur.size) : (arrPut cur us off).size = cur.size := by simp [arrPut]; omega
theorem arrPut_get {cur us : Array Value} {off : Nat} (h : off + us.size ≤ cur.size) (i : Nat) : (arrPut cur us off)[i]? = if off ≤ i ∧ i < off + us.size then us[i - off]? else cur[i]? := by
  unfold arrPut
  simp only [List.getElem?_toArray]
  have hto : (cur.toList.take off).length = off := by simp; omega
  by_cases c1 : i < off
  · rw [if_neg (by omega), List.append_assoc, List.getElem?_append_left (by rw [hto]; exact c1), List.getElem?_take_of_lt c1]; simp
  · by_cases c2 : i < off + us.size
    · rw [if_pos (by omega), List.getElem?_append_left (by rw [List.length_append, hto]; simpa using c2), List.getElem?_append_right (by rw [hto]; omega), hto]; simp
    · rw [if_neg (by omega), List.getElem?_append_right (by rw [List.length_append, hto]; simp; omega), List.length_append, hto, List.getElem?_drop]
      simp only [Array.length_toList]
      rw [show off + us.size + (i - (off + us.size)) = i by omega]; simp

theorem runs_store {t : TypeId} {x y : Operand} (ho : o.op = .store t x y) {k : Nat} (hn : tsize P t = some k) {g off : Nat} (hx : a.eval x = .pointer (some ⟨g, off, none⟩)) {cur : Array Value} {e : TypeId}
    (hg : w.heap[g]? = some (.cells cur e (0, 0))) (hk : (a.eval y).cells.size = k) (hle : off + k ≤ cur.size) (h1 : ∀ v ∈ (a.eval y).cells.toList, v.oneCell' = true) :
    (execOp a.eval o).run P w = .ok .skip (w.setRow g (arrPut cur (a.eval y).cells off)) := by
  have hst := run_storeCells_at P g off e (a.eval y).cells.toList 0 cur w hg (by simp only [Nat.add_zero, Array.length_toList]; omega) h1
  simp only [Nat.add_zero] at hst
  have hsv : (storeVar t ⟨g, off, none⟩ (a.eval y)).run P w = .ok () (w.setRow g (arrPut cur (a.eval y).cells off)) := by
    unfold storeVar
    simp only [Sem.run_bind, run_sizeOf' hn, Result.andThen_ok]
    rw [if_neg (by rw [hk]; simp)]
    exact hst
  simp only [execOp, ho, hx, Instr.storeAt, Instr.sureAddr, Sem.run_bind, Sem.run_pure, Result.andThen_ok, hsv]

theorem splice_rel {Rel : Nat → AV → Value → Prop} {cs ys : List AV} {cur us : Array Value} {off : Nat} (hle : off + ys.length ≤ cs.length) (hcs : cs.length ≤ cur.size) (hu : us.size = ys.length)
    (h : ∀ c (h : c < cs.length) (h' : c < cur.size), Rel c cs[c] cur[c]) (hy : ∀ c (hc : c < ys.length) (hc' : c < us.size), Rel (off + c) ys[c] us[c]) :
    ∀ c (hc : c < (splice cs off ys).length) (hc' : c < (arrPut cur us off).size), Rel c (splice cs off ys)[c] (arrPut cur us off)[c] := by
  intro c hc1 hc2
  have hsp := splice_get hle c
  have hr := arrPut_get (cur := cur) (us := us) (off := off) (by omega) c
  rw [List.getElem?_eq_getElem hc1] at hsp
  rw [Array.getElem?_eq_getElem hc2] at hr
  by_cases hin : off ≤ c ∧ c < off + ys.length
  · rw [if_pos hin] at hsp; rw [if_pos (by omega)] at hr
    have hl : c - off < ys.length := by omega
    have hl' : c - off < us.size := by omega
    rw [List.getElem?_eq_getElem hl] at hsp; rw [Array.getElem?_eq_getElem hl'] at hr
    injection hsp with hsp; injection hr with hr
    rw [hsp, hr]
    have := hy (c - off) hl hl'
    rw [show off + (c - off) = c by omega] at this
    exact this
  · rw [if_neg hin] at hsp; rw [if_neg (by omega)] at hr
    have hl : c < cs.length := by rw [splice_length hle] at hc1; exact hc1
    have hl' : c < cur.size := by omega
    rw [List.getElem?_eq_getElem hl] at hsp; rw [Array.getElem?_eq_getElem hl'] at hr
    injection hsp with hsp; injection hr with hr
    rw [hsp, hr]
    exact h c hl hl'

theorem SR.written (h : SR w0 F0 A n st a w G) {s : K} {ob ob' : Obj} (hs : st.at s = some ob) {t : Th} (hg : G.at s = some t) (hω : G.ω t.b = .box s) (hF : G.Fr t.b = 0) (new : Array Value)
    (hnew : (∀ p, p ≠ .box s → ∀ c x v, p = .cell s c → TC w G p x v → TC (w.setRow t.b new) G p x v) → Ext w G.Fr (w.setRow t.b new) G.Fr → ObjR (w.setRow t.b new) G s t ob') :
    SR w0 F0 A n (st.setAt s ob') a (w.setRow t.b new) G := by
  have hmine := h.mine t.b (by rw [hω]; simp)
  have hx : Ext w G.Fr (w.setRow t.b new) G.Fr := ext_setRow hF new
  have hkeep : ∀ (p : Pos), p ≠ .box s → ∀ b, G.ω b = p → b < w.heap.size → (w.setRow t.b new).heap[b]? = w.heap[b]? ∧ G.Fr b = G.Fr b ∧ G.ω b = p := by
    intro p hp b hb _
    exact ⟨setRow_other w t.b b new (fun e => by subst e; exact hp (hb.symm.trans hω)), rfl, hb⟩
  exact h.setBox (w' := w.setRow t.b new) (G' := G) hs hx rfl rfl (fun p _ hp => hkeep p hp) ⟨t, hg, hω, by rw [size_setRow]; exact hmine.1, hnew (fun p hp c x v _ hT => hT.keeps hx (hkeep p hp)) hx⟩
    (kp_setRow h.kept hmine.2 new) (fun b hb => by rw [size_setRow]; exact h.mine b hb) h.same (fun b hb => h.fresh b (by rw [size_setRow] at hb; exact hb))

theorem SR.store (h : SR w0 F0 A n st a w G) {s : K} {off : Nat} {cs ys : List AV} {us : Array Value} (hs : st.at s = some (.cells cs)) (hle : off + ys.length ≤ cs.length) (hu : us.size = ys.length)
    (hy : ∀ c (hc : c < ys.length) (hc' : c < us.size), (us[c]).oneCell' = true ∧ TC w G (.cell s (off + c)) ys[c] us[c]) {t : Th} (hg : G.at s = some t) {cur : Array Value} {e : TypeId} (hcur : w.heap[t.b]? = some (.cells cur e (0, 0))) :
    SR w0 F0 A n (st.setAt s (.cells (splice cs off ys))) a (w.setRow t.b (arrPut cur us off)) G := by
  obtain ⟨t', h1, h2, h3, j1, j2, vs, h4, h5, h6⟩ := h.at hs
  rw [hg] at h1; injection h1 with h1; subst h1
  rw [hcur] at h4; injection h4 with h4; injection h4 with h4 h4'; subst h4; subst h4'
  refine h.written hs hg h2 j1 _ (fun hk hx => ?_)
  refine ⟨j1, j2, arrPut cur us off, setRow_heap w t.b cur _ t.e _ hcur, by rw [arrPut_size (by omega), splice_length hle]; exact h5, ?_⟩
  refine splice_rel (Rel := fun c x v => v.oneCell' = true ∧ TC (w.setRow t.b (arrPut cur us off)) G (.cell s c) x v) hle (by omega) hu (fun c hc1 hc2 => ?_) (fun c hc1 hc2 => ?_)
  · exact ⟨(h6 c hc1 hc2).1, hk _ (by simp) c _ _ rfl (h6 c hc1 hc2).2⟩
  · exact ⟨(hy c hc1 hc2).1, hk _ (by simp) _ _ _ rfl (hy c hc1 hc2).2⟩

theorem splice_get2 {xs ys : List AV} {off : Nat} (h : off ≤ xs.length) (i : Nat) : (splice xs off ys)[i]? = if off ≤ i ∧ i < off + ys.length then ys[i - off]? else xs[i]? := by
  unfold splice
  have hto : (xs.take off).length = off := by simp; omega
  by_cases h1 : i < off
  · rw [if_neg (by omega), List.append_assoc, List.getElem?_append_left (by rw [hto]; exact h1), List.getElem?_take_of_lt h1]
  · by_cases h2 : i < off + ys.length
    · rw [if_pos (by omega), List.getElem?_append_left (by rw [List.length_append, hto]; exact h2), List.getElem?_append_right (by rw [hto]; omega), hto]
    · rw [if_neg (by omega), List.getElem?_append_right (by rw [List.length_append, hto]; omega), List.length_append, hto, List.getElem?_drop]
      congr 1; omega
theorem splice_length2 {xs ys : List AV} {off : Nat} (h : off ≤ xs.length) : (splice xs off ys).length = max xs.length (off + ys.length) := by
  unfold splice; simp; omega
theorem splice_rel2 {Rel : Nat → AV → Value → Prop} {cs ys : List AV} {cur us : Array Value} {off : Nat} (hlo : off ≤ cs.length) (hle : off + ys.length ≤ cur.size) (hcs : cs.length ≤ cur.size) (hu : us.size = ys.length)
    (h : ∀ c (h : c < cs.length) (h' : c < cur.size), Rel c cs[c] cur[c]) (hy : ∀ c (hc : c < ys.length) (hc' : c < us.size), Rel (off + c) ys[c] us[c]) :
    ∀ c (hc : c < (splice cs off ys).length) (hc' : c < (arrPut cur us off).size), Rel c (splice cs off ys)[c] (arrPut cur us off)[c] := by
  intro c hc1 hc2
  have hsp := splice_get2 (ys := ys) hlo c
  have hr := arrPut_get (cur := cur) (us := us) (off := off) (by omega) c
  have hlen := splice_length2 (ys := ys) hlo
  rw [List.getElem?_eq_getElem hc1] at hsp
  rw [Array.getElem?_eq_getElem hc2] at hr
  by_cases hin : off ≤ c ∧ c < off + ys.length
  · rw [if_pos hin] at hsp; rw [if_pos (by omega)] at hr
    have hl : c - off < ys.length := by omega
    have hl' : c - off < us.size := by omega
    rw [List.getElem?_eq_getElem hl] at hsp; rw [Array.getElem?_eq_getElem hl'] at hr
    injection hsp with hsp; injection hr with hr
    rw [hsp, hr]
    have := hy (c - off) hl hl'
    rw [show off + (c - off) = c by omega] at this
    exact this
  · rw [if_neg hin] at hsp; rw [if_neg (by omega)] at hr
    have hl : c < cs.length := by
      rcases Nat.lt_or_ge c cs.length with h' | h'
      · exact h'
      · rw [hlen] at hc1; omega
    have hl' : c < cur.size := by omega
    rw [List.getElem?_eq_getElem hl] at hsp; rw [Array.getElem?_eq_getElem hl'] at hr
    injection hsp with hsp; injection hr with hr
    rw [hsp, hr]
    exact h c hl hl'

theorem SR.storeRow (h : SR w0 F0 A n st a w G) {s : K} {off e1 sz : Nat} {cp : Option Nat} {cs ys : List AV} {us : Array Value} (hs : st.at s = some (.row e1 sz cp cs)) (hlo : off ≤ cs.length) (hu : us.size = ys.length)
    (hy : ∀ c (hc : c < ys.length) (hc' : c < us.size), (us[c]).oneCell' = true ∧ CR w G.Fr ys[c] us[c]) {t : Th} (hg : G.at s = some t) (hN : t.r = true → off + ys.length ≤ t.N) (hm : ∃ m, (splice cs off ys).length = m * sz)
    {cur : Array Value} {e : TypeId} (hcur : w.heap[t.b]? = some (.cells cur e (0, 0))) :
    SR w0 F0 A n (st.setAt s (.row e1 sz cp (splice cs off ys))) a (w.setRow t.b (arrPut cur us off)) G := by
  obtain ⟨t', h1, h2, h3, j1, j2, j3, j4, j5, j6, j7, vs, h4, h5, h6⟩ := h.at hs
  rw [hg] at h1; injection h1 with h1; subst h1
  rw [hcur] at h4; injection h4 with h4; injection h4 with h4 h4'; subst h4; subst h4'
  have hle := hN j2
  have hlen := splice_length2 (ys := ys) hlo
  refine h.written hs hg h2 j1 _ (fun hk hx => ?_)
  refine ⟨j1, j2, j3, j4, j5, by omega, hm, arrPut cur us off, setRow_heap w t.b cur _ t.e _ hcur, by rw [arrPut_size (by omega)]; exact h5, ?_⟩
  refine splice_rel2 (Rel := fun c x v => v.oneCell' = true ∧ CR (w.setRow t.b (arrPut cur us off)) G.Fr x v) hlo (by omega) (by omega) hu (fun c hc1 hc2 => ?_) (fun c hc1 hc2 => ?_)
  · exact ⟨(h6 c hc1 hc2).1, (h6 c hc1 hc2).2.ext hx⟩
  · exact ⟨(hy c hc1 hc2).1, (hy c hc1 hc2).2.ext hx⟩

/-! ### A text's bytes -/
theorem kp_bytes (w : World) (e : TypeId) (s : ByteArray) : Kp w (fun _ => False) (Lib.bytesWorld w e s) :=
  ⟨rfl, rfl, rfl, by rw [Lib.bytesWorld_size]; omega, fun b hb _ => Lib.bytesWorld_at_old w e s b hb⟩

theorem SR.bytes (h : SR w0 F0 A n st a w G) (e : TypeId) (s : ByteArray) :
    ∃ G', SR w0 F0 A n st a (Lib.bytesWorld w e s) G' ∧ CR (Lib.bytesWorld w e s) G'.Fr (.slice .frz e 1 (byteCells s.data.toList)) (.slice (some ⟨w.heap.size, 0, none⟩) s.size (grownCap w s.size 0 e)) ∧ G'.β = G.β ∧ Ext w G.Fr (Lib.bytesWorld w e s) G'.Fr := by
  have hk := kp_bytes w e s
  have hx : Ext w G.Fr (Lib.bytesWorld w e s) (G.Fr.put w.heap.size s.size) :=
    ⟨fun b => by simp only [FT.put, upd]; split; { rw [h.fresh b (by omega)]; omega }; { exact Nat.le_refl _ }, fun b o v ho hv => by
      have hlt : b < w.heap.size := by
        rcases Nat.lt_or_ge b w.heap.size with h' | h'
        · exact h'
        · rw [h.fresh b h'] at ho; omega
      rw [← hv]; exact Lib.bytesWorld_old w e s ⟨b, o, none⟩ hlt, fun _ _ h => h, fun b cs e' h1 h2 => ⟨cs, by rw [hk.block b (Array.getElem?_eq_some_iff.1 h2).1 id]; exact h2⟩⟩
  refine ⟨⟨G.Fr.put w.heap.size s.size, G.β, G.ω⟩, h.world (fun _ => False) (fun _ h => h.elim) hk hx (fun b hb _ => FT.put_ne _ _ _ _ (by omega)) (fun b hb => by
    rw [Lib.bytesWorld_size] at hb; rw [FT.put_ne _ _ _ _ (by omega)]; exact h.fresh b (by omega)) h.heap.ids, ?_, rfl, hx⟩
  have hlen : (byteCells s.data.toList).length = s.size := by simp [byteCells]
  refine .frz e 1 s.size _ ⟨w.heap.size, 0, none⟩ _ (fun i => .int .u8 (s.data.toList.getD i 0).toNat) (fun _ => rfl) (by omega) (by rw [hlen]; omega) (grownCap_ge _ _ _ _) (fun i hi => by rw [hlen] at hi; simp [FT.put, upd]; exact hi) (fun i hi => ?_) (fun i hi => rfl) (fun i hi => ?_)
  · rw [hlen] at hi
    rw [Nat.zero_add]; exact Lib.bytesWorld_cell w e s i hi
  · rw [hlen] at hi
    have hi' : i < s.data.toList.length := by simpa using hi
    have : (byteCells s.data.toList)[i]'(by rw [hlen]; exact hi) = .int .u8 (s.data.toList.getD i 0).toNat := by
      simp [byteCells, List.getD, List.getElem?_eq_getElem hi']
    rw [this]; exact .int _ _

theorem runs_convSB {s d e : TypeId} {sz by' : Nat} {x : Operand} (ho : o.op = .convert s d x) (hs : tkind P s = some 2) (hd : telem P d = some (e, sz, by')) (he : tint P e = some .u8) {t : ByteArray} (hx : a.eval x = .string t) :
    Runs P o a w (.slice (some ⟨w.heap.size, 0, none⟩) t.size (grownCap w t.size 0 e)) (Lib.bytesWorld w e t) := by
  have := Lib.run_convert_string_bytes (P := P) w s d e t (tkind_2 hs) (telem_inv hd).1 (tint_inv he)
  simp only [Runs, execOp, ho, hx, Sem.run_bind, this, Result.andThen_ok, Sem.run_pure]

/-! ### Appends -/

theorem SR.grown (h : SR w0 F0 A n st a w G) {v : Value} (hv : ∀ b, v.ownBlock = some b → (G.ω b).loose = true ∧ (A b ∨ w0.heap.size ≤ b)) (hg : w.grownBy w' v.ownBlock)
    (hcell : ∀ b o u, v.ownBlock = some b → o < G.Fr b → w.cell? ⟨b, o, none⟩ = some u → w'.cell? ⟨b, o, none⟩ = some u) (hlt : ∀ b, v.ownBlock = some b → b < w.heap.size)
    (hshp : ∀ b cs e, v.ownBlock = some b → w.heap[b]? = some (.cells cs e (0, 0)) → ∃ cs', w'.heap[b]? = some (.cells cs' e (0, 0))) :
    SR w0 F0 A n st a w' G ∧ Ext w G.Fr w' G.Fr := by
  have hk : Kp w (fun b => v.ownBlock = some b) w' := ⟨hg.os, hg.tape, hg.output, hg.size, fun b hb hne => hg.block b hb (fun e => hne e.symm)⟩
  have hx : Ext w G.Fr w' G.Fr := ⟨fun _ => Nat.le_refl _, fun b o u ho hu => by
    by_cases hb : v.ownBlock = some b
    · exact hcell b o u hb ho hu
    · have hblt : b < w.heap.size := by
        rcases Nat.lt_or_ge b w.heap.size with h' | h'
        · exact h'
        · rw [h.fresh b h'] at ho; omega
      rw [← hu]; exact World.cell?_of_block (a := ⟨b, o, none⟩) (hk.block b hblt hb), fun _ _ h => h, fun b cs e _ h2 => by
    by_cases hb : v.ownBlock = some b
    · exact hshp b cs e hb h2
    · exact ⟨cs, by rw [hk.block b (Array.getElem?_eq_some_iff.1 h2).1 hb]; exact h2⟩⟩
  exact ⟨h.world _ (fun b hb => ⟨(hv b hb).2, (hv b hb).1⟩) hk hx (fun _ _ _ => rfl) (fun b hb => h.fresh b (Nat.le_trans hg.size hb)) h.heap.ids, hx⟩


theorem own_grown {b : Nat} {f : Bool} {e sz m : Nat} {xs ys : List AV} {vs us : List Value} {v v' : Value} {Fr : FT}
    (hO : OwnR w Fr b f e sz xs v) (hx : Ext w Fr w' Fr) (hown : w.ownsRow 0 e sz v (vs.length / sz) vs) (hvl : vs.length = xs.length) (hv' : w'.ownsRow 0 e sz v' (vs.length / sz + m) (vs ++ us))
    (hul : us.length = ys.length) (huc : ∀ c (hc : c < ys.length) (hc' : c < us.length), (us[c]).oneCell' = true ∧ CR w Fr ys[c] us[c]) {b' : Nat} (hb' : v'.ownBlock = some b') (hbb : b' = b ∨ Fr b' = 0) :
    OwnR w' Fr b' f e sz (xs ++ ys) v' := by
  obtain ⟨n', vs', ho, hob, hz, hl, hc, h1, h2⟩ := hO
  have hvs : vs = vs' := by
    rcases ho.2 with ⟨rfl, _⟩ | ⟨g, cap, cur, rfl, _, hg, hnc, _, _, ht⟩
    · simp [Value.ownBlock] at hob
    · rcases hown.2 with ⟨h0, _⟩ | ⟨g2, cap2, cur2, h0, _, hg2, _, _, _, ht2⟩
      · cases h0
      · injection h0 with e1 e2 e3; injection e1 with e1; injection e1 with e1
        subst e1
        rw [hg] at hg2; injection hg2 with hg2; injection hg2 with hg2; subst hg2
        rw [← ht, ← ht2, e2]
  subst hvs
  refine ⟨_, vs ++ us, hv', hb', hz, by rw [List.length_append, List.length_append, hl, hul], fun i hi hi' => ?_, ?_, fun hf => ?_⟩
  · by_cases hlt : i < xs.length
    · rw [List.getElem_append_left hlt, List.getElem_append_left (by omega)]
      exact ⟨(hc i hlt (by omega)).1, (hc i hlt (by omega)).2.ext hx⟩
    · rw [List.getElem_append_right (by omega), List.getElem_append_right (by omega)]
      simp only [List.length_append] at hi hi'
      have hk := huc (i - xs.length) (by omega) (by omega)
      simp only [hl]
      exact ⟨hk.1, hk.2.ext hx⟩
  · rcases hbb with rfl | h0
    · rw [List.length_append]; omega
    · rw [h0]; omega
  · rcases hbb with rfl | h0
    · exact h2 hf
    · exact h0

end Go.Proofs.YtjlioidknhdceaaDoor.Abs
