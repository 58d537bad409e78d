/- A15, A16 -/
import Derived.Test.YtcodfehgnjplcaaGreatDoorA14
import Derived.Laws.OwnMore
/- Stores, conversions of texts to bytes, appends: what they leave. -/
namespace Go.Proofs.YtcodfehgnjplcaaGreatDoor.Abs
set_option linter.all false
set_option linter.unusedVariables false

variable {P : Program} {w w' : World} {G G' : Gh} {a : Act} {o : Oper}
variable {w0 : World} {F0 : FT} {A : Nat → Prop} {n : Nat} {st : St} {β : Type}

/-! ### Stores -/

theorem cells_TC {p : Nat → Pos} {s : K} {off : Nat} (hp : p 0 = .cell s off) {x : AV} {v : Value} (hpl : x.plain = true) (h : TR w G p x v) :
    v.cells.size = x.cells.length ∧ ∀ c (hc : c < x.cells.length) (hc' : c < v.cells.size), (v.cells[c]).oneCell' = true ∧ TC w G (.cell s (off + c)) x.cells[c] v.cells[c] := by
  by_cases hown : x.isOwn = true
  · cases x with
    | slice c e sz xs => cases c with
      | own f =>
        have h' := TC_of_TR h rfl
        obtain ⟨b, hb, hO⟩ := h'
        obtain ⟨oo, m, cap, rfl, _⟩ := TR_slice h
        refine ⟨rfl, fun c hc hc' => ?_⟩
        obtain rfl : c = 0 := by simp [AV.cells] at hc; exact hc
        exact ⟨rfl, b, by rw [hb, hp]; simp, hO⟩
      | _ => simp [AV.isOwn] at hown
    | _ => simp [AV.isOwn] at hown
  · have hC := CR_of_TC (TC_of_TR h hpl) (by simpa using hown)
    obtain ⟨h1, h2⟩ := cells_RowR hC
    exact ⟨h1, fun c hc hc' => ⟨(h2 c hc hc').1, TC_of_CR (h2 c hc hc').2⟩⟩

def arrPut (cur us : Array Value) (off : Nat) : Array Value := (cur.toList.take off ++ us.toList ++ cur.toList.drop (off + us.toList.length)).toArray
theorem arrPut_size {cur us : Array Value} {off : Nat} (h : off + us.size ≤ cur.size) : (arrPut cur us off).size = cur.size := by simp [arrPut]; omega
theorem arrPut_get {cur us : Array Value} {off : Nat} (h : off + us.size ≤ cur.size) (i : Nat) : (arrPut cur us off)[i]? = if off ≤ i ∧ i < off + us.size then us[i - off]? else cur[i]? := by
  unfold arrPut
  simp only [List.getElem?_toArray]
  have hto : (cur.toList.take off).length = off := by simp; omega
  by_cases c1 : i < off
  · rw [if_neg (by omega), List.append_assoc, List.getElem?_append_left (by rw [hto]; exact c1), List.getElem?_take_of_lt c1]; simp
  · by_cases c2 : i < off + us.size
    · rw [if_pos (by omega), List.getElem?_append_left (by rw [List.length_append, hto]; simpa using c2), List.getElem?_append_right (by rw [hto]; omega), hto]; simp
    · rw [if_neg (by omega), List.getElem?_append_right (by rw [List.length_append, hto]; simp; omega), List.length_append, hto, List.getElem?_drop]
      simp only [Array.length_toList]
      rw [show off + us.size + (i - (off + us.size)) = i by omega]; simp

theorem runs_store {t : TypeId} {x y : Operand} (ho : o.op = .store t x y) {k : Nat} (hn : tsize P t = some k) {g off : Nat} (hx : a.eval x = .pointer (some ⟨g, off, none⟩)) {cur : Array Value} {e : TypeId}
    (hg : w.heap[g]? = some (.cells cur e (0, 0))) (hk : (a.eval y).cells.size = k) (hle : off + k ≤ cur.size) (h1 : ∀ v ∈ (a.eval y).cells.toList, v.oneCell' = true) :
    (execOp a.eval o).run P w = .ok .skip (w.setRow g (arrPut cur (a.eval y).cells off)) := by
  have hst := run_storeCells_at P g off e (a.eval y).cells.toList 0 cur w hg (by simp only [Nat.add_zero, Array.length_toList]; omega) h1
  simp only [Nat.add_zero] at hst
  have hsv : (storeVar t ⟨g, off, none⟩ (a.eval y)).run P w = .ok () (w.setRow g (arrPut cur (a.eval y).cells off)) := by
    unfold storeVar
    simp only [Sem.run_bind, run_sizeOf' hn, Result.andThen_ok]
    rw [if_neg (by rw [hk]; simp)]
    exact hst
  simp only [execOp, ho, hx, Instr.storeAt, Instr.sureAddr, Sem.run_bind, Sem.run_pure, Result.andThen_ok, hsv]

theorem splice_rel {Rel : Nat → AV → Value → Prop} {cs ys : List AV} {cur us : Array Value} {off : Nat} (hle : off + ys.length ≤ cs.length) (hcs : cs.length ≤ cur.size) (hu : us.size = ys.length)
    (h : ∀ c (h : c < cs.length) (h' : c < cur.size), Rel c cs[c] cur[c]) (hy : ∀ c (hc : c < ys.length) (hc' : c < us.size), Rel (off + c) ys[c] us[c]) :
    ∀ c (hc : c < (splice cs off ys).length) (hc' : c < (arrPut cur us off).size), Rel c (splice cs off ys)[c] (arrPut cur us off)[c] := by
  intro c hc1 hc2
  have hsp := splice_get hle c
  have hr := arrPut_get (cur := cur) (us := us) (off := off) (by omega) c
  rw [List.getElem?_eq_getElem hc1] at hsp
  rw [Array.getElem?_eq_getElem hc2] at hr
  by_cases hin : off ≤ c ∧ c < off + ys.length
  · rw [if_pos hin] at hsp; rw [if_pos (by omega)] at hr
    have hl : c - off < ys.length := by omega
    have hl' : c - off < us.size := by omega
    rw [List.getElem?_eq_getElem hl] at hsp; rw [Array.getElem?_eq_getElem hl'] at hr
    injection hsp with hsp; injection hr with hr
    rw [hsp, hr]
    have := hy (c - off) hl hl'
    rw [show off + (c - off) = c by omega] at this
    exact this
  · rw [if_neg hin] at hsp; rw [if_neg (by omega)] at hr
    have hl : c < cs.length := by rw [splice_length hle] at hc1; exact hc1
    have hl' : c < cur.size := by omega
    rw [List.getElem?_eq_getElem hl] at hsp; rw [Array.getElem?_eq_getElem hl'] at hr
    injection hsp with hsp; injection hr with hr
    rw [hsp, hr]
    exact h c hl hl'

theorem SR.written (h : SR w0 F0 A n st a w G) {s : K} {ob ob' : Obj} (hs : st.at s = some ob) {t : Th} (hg : G.at s = some t) (hω : G.ω t.b = .box s) (hF : G.Fr t.b = 0) (new : Array Value)
    (hnew : (∀ p, p ≠ .box s → ∀ c x v, p = .cell s c → TC w G p x v → TC (w.setRow t.b new) G p x v) → Ext w G.Fr (w.setRow t.b new) G.Fr → ObjR (w.setRow t.b new) G s t ob') :
    SR w0 F0 A n (st.setAt s ob') a (w.setRow t.b new) G := by
  have hmine := h.mine t.b (by rw [hω]; simp)
  have hx : Ext w G.Fr (w.setRow t.b new) G.Fr := ext_setRow hF new
  have hkeep : ∀ (p : Pos), p ≠ .box s → ∀ b, G.ω b = p → b < w.heap.size → (w.setRow t.b new).heap[b]? = w.heap[b]? ∧ G.Fr b = G.Fr b ∧ G.ω b = p := by
    intro p hp b hb _
    exact ⟨setRow_other w t.b b new (fun e => by subst e; exact hp (hb.symm.trans hω)), rfl, hb⟩
  exact h.setBox (w' := w.setRow t.b new) (G' := G) hs hx rfl rfl (fun p _ hp => hkeep p hp) ⟨t, hg, hω, by rw [size_setRow]; exact hmine.1, hnew (fun p hp c x v _ hT => hT.keeps hx (hkeep p hp)) hx⟩
    (kp_setRow h.kept hmine.2 new) (fun b hb => by rw [size_setRow]; exact h.mine b hb) h.same (fun b hb => h.fresh b (by rw [size_setRow] at hb; exact hb))

theorem SR.store (h : SR w0 F0 A n st a w G) {s : K} {off : Nat} {cs ys : List AV} {us : Array Value} (hs : st.at s = some (.cells cs)) (hle : off + ys.length ≤ cs.length) (hu : us.size = ys.length)
    (hy : ∀ c (hc : c < ys.length) (hc' : c < us.size), (us[c]).oneCell' = true ∧ TC w G (.cell s (off + c)) ys[c] us[c]) {t : Th} (hg : G.at s = some t) {cur : Array Value} {e : TypeId} (hcur : w.heap[t.b]? = some (.cells cur e (0, 0))) :
    SR w0 F0 A n (st.setAt s (.cells (splice cs off ys))) a (w.setRow t.b (arrPut cur us off)) G := by
  obtain ⟨t', h1, h2, h3, j1, j2, vs, h4, h5, h6⟩ := h.at hs
  rw [hg] at h1; injection h1 with h1; subst h1
  rw [hcur] at h4; injection h4 with h4; injection h4 with h4 h4'; subst h4; subst h4'
  refine h.written hs hg h2 j1 _ (fun hk hx => ?_)
  refine ⟨j1, j2, arrPut cur us off, setRow_heap w t.b cur _ t.e _ hcur, by rw [arrPut_size (by omega), splice_length hle]; exact h5, ?_⟩
  refine splice_rel (Rel := fun c x v => v.oneCell' = true ∧ TC (w.setRow t.b (arrPut cur us off)) G (.cell s c) x v) hle (by omega) hu (fun c hc1 hc2 => ?_) (fun c hc1 hc2 => ?_)
  · exact ⟨(h6 c hc1 hc2).1, hk _ (by simp) c _ _ rfl (h6 c hc1 hc2).2⟩
  · exact ⟨(hy c hc1 hc2).1, hk _ (by simp) _ _ _ rfl (hy c hc1 hc2).2⟩

theorem splice_get2 {xs ys : List AV} {off : Nat} (h : off ≤ xs.length) (i : Nat) : (splice xs off ys)[i]? = if off ≤ i ∧ i < off + ys.length then ys[i - off]? else xs[i]? := by
  unfold splice
  have hto : (xs.take off).length = off := by simp; omega
  by_cases h1 : i < off
  · rw [if_neg (by omega), List.append_assoc, List.getElem?_append_left (by rw [hto]; exact h1), List.getElem?_take_of_lt h1]
  · by_cases h2 : i < off + ys.length
    · rw [if_pos (by omega), List.getElem?_append_left (by rw [List.length_append, hto]; exact h2), List.getElem?_append_right (by rw [hto]; omega), hto]
    · rw [if_neg (by omega), List.getElem?_append_right (by rw [List.length_append, hto]; omega), List.length_append, hto, List.getElem?_drop]
      congr 1; omega
theorem splice_length2 {xs ys : List AV} {off : Nat} (h : off ≤ xs.length) : (splice xs off ys).length = max xs.length (off + ys.length) := by
  unfold splice; simp; omega
theorem splice_rel2 {Rel : Nat → AV → Value → Prop} {cs ys : List AV} {cur us : Array Value} {off : Nat} (hlo : off ≤ cs.length) (hle : off + ys.length ≤ cur.size) (hcs : cs.length ≤ cur.size) (hu : us.size = ys.length)
    (h : ∀ c (h : c < cs.length) (h' : c < cur.size), Rel c cs[c] cur[c]) (hy : ∀ c (hc : c < ys.length) (hc' : c < us.size), Rel (off + c) ys[c] us[c]) :
    ∀ c (hc : c < (splice cs off ys).length) (hc' : c < (arrPut cur us off).size), Rel c (splice cs off ys)[c] (arrPut cur us off)[c] := by
  intro c hc1 hc2
  have hsp := splice_get2 (ys := ys) hlo c
  have hr := arrPut_get (cur := cur) (us := us) (off := off) (by omega) c
  have hlen := splice_length2 (ys := ys) hlo
  rw [List.getElem?_eq_getElem hc1] at hsp
  rw [Array.getElem?_eq_getElem hc2] at hr
  by_cases hin : off ≤ c ∧ c < off + ys.length
  · rw [if_pos hin] at hsp; rw [if_pos (by omega)] at hr
    have hl : c - off < ys.length := by omega
    have hl' : c - off < us.size := by omega
    rw [List.getElem?_eq_getElem hl] at hsp; rw [Array.getElem?_eq_getElem hl'] at hr
    injection hsp with hsp; injection hr with hr
    rw [hsp, hr]
    have := hy (c - off) hl hl'
    rw [show off + (c - off) = c by omega] at this
    exact this
  · rw [if_neg hin] at hsp; rw [if_neg (by omega)] at hr
    have hl : c < cs.length := by
      rcases Nat.lt_or_ge c cs.length with h' | h'
      · exact h'
      · rw [hlen] at hc1; omega
    have hl' : c < cur.size := by omega
    rw [List.getElem?_eq_getElem hl] at hsp; rw [Array.getElem?_eq_getElem hl'] at hr
    injection hsp with hsp; injection hr with hr
    rw [hsp, hr]
    exact h c hl hl'

theorem SR.storeRow (h : SR w0 F0 A n st a w G) {s : K} {off e1 sz : Nat} {cp : Option Nat} {cs ys : List AV} {us : Array Value} (hs : st.at s = some (.row e1 sz cp cs)) (hlo : off ≤ cs.length) (hu : us.size = ys.length)
    (hy : ∀ c (hc : c < ys.length) (hc' : c < us.size), (us[c]).oneCell' = true ∧ CR w G.Fr ys[c] us[c]) {t : Th} (hg : G.at s = some t) (hN : t.r = true → off + ys.length ≤ t.N) (hm : ∃ m, (splice cs off ys).length = m * sz)
    {cur : Array Value} {e : TypeId} (hcur : w.heap[t.b]? = some (.cells cur e (0, 0))) :
    SR w0 F0 A n (st.setAt s (.row e1 sz cp (splice cs off ys))) a (w.setRow t.b (arrPut cur us off)) G := by
  obtain ⟨t', h1, h2, h3, j1, j2, j3, j4, j5, j6, j7, vs, h4, h5, h6⟩ := h.at hs
  rw [hg] at h1; injection h1 with h1; subst h1
  rw [hcur] at h4; injection h4 with h4; injection h4 with h4 h4'; subst h4; subst h4'
  have hle := hN j2
  have hlen := splice_length2 (ys := ys) hlo
  refine h.written hs hg h2 j1 _ (fun hk hx => ?_)
  refine ⟨j1, j2, j3, j4, j5, by omega, hm, arrPut cur us off, setRow_heap w t.b cur _ t.e _ hcur, by rw [arrPut_size (by omega)]; exact h5, ?_⟩
  refine splice_rel2 (Rel := fun c x v => v.oneCell' = true ∧ CR (w.setRow t.b (arrPut cur us off)) G.Fr x v) hlo (by omega) (by omega) hu (fun c hc1 hc2 => ?_) (fun c hc1 hc2 => ?_)
  · exact ⟨(h6 c hc1 hc2).1, (h6 c hc1 hc2).2.ext hx⟩
  · exact ⟨(hy c hc1 hc2).1, (hy c hc1 hc2).2.ext hx⟩

/-! ### A text's bytes -/
theorem kp_bytes (w : World) (e : TypeId) (s : ByteArray) : Kp w (fun _ => False) (Lib.bytesWorld w e s) :=
  ⟨rfl, rfl, rfl, by rw [Lib.bytesWorld_size]; omega, fun b hb _ => Lib.bytesWorld_at_old w e s b hb⟩

theorem SR.bytes (h : SR w0 F0 A n st a w G) (e : TypeId) (s : ByteArray) :
    ∃ G', SR w0 F0 A n st a (Lib.bytesWorld w e s) G' ∧ CR (Lib.bytesWorld w e s) G'.Fr (.slice .frz e 1 (byteCells s.data.toList)) (.slice (some ⟨w.heap.size, 0, none⟩) s.size (grownCap w s.size 0 e)) ∧ G'.β = G.β ∧ Ext w G.Fr (Lib.bytesWorld w e s) G'.Fr := by
  have hk := kp_bytes w e s
  have hx : Ext w G.Fr (Lib.bytesWorld w e s) (G.Fr.put w.heap.size s.size) :=
    ⟨fun b => by simp only [FT.put, upd]; split; { rw [h.fresh b (by omega)]; omega }; { exact Nat.le_refl _ }, fun b o v ho hv => by
      have hlt : b < w.heap.size := by
        rcases Nat.lt_or_ge b w.heap.size with h' | h'
        · exact h'
        · rw [h.fresh b h'] at ho; omega
      rw [← hv]; exact Lib.bytesWorld_old w e s ⟨b, o, none⟩ hlt, fun _ _ h => h, fun b cs e' h1 h2 => ⟨cs, by rw [hk.block b (Array.getElem?_eq_some_iff.1 h2).1 id]; exact h2⟩⟩
  refine ⟨⟨G.Fr.put w.heap.size s.size, G.β, G.ω⟩, h.world (fun _ => False) (fun _ h => h.elim) hk hx (fun b hb _ => FT.put_ne _ _ _ _ (by omega)) (fun b hb => by
    rw [Lib.bytesWorld_size] at hb; rw [FT.put_ne _ _ _ _ (by omega)]; exact h.fresh b (by omega)) h.heap.ids, ?_, rfl, hx⟩
  have hlen : (byteCells s.data.toList).length = s.size := by simp [byteCells]
  refine .frz e 1 s.size _ ⟨w.heap.size, 0, none⟩ _ (fun i => .int .u8 (s.data.toList.getD i 0).toNat) (fun _ => rfl) (by omega) (by rw [hlen]; omega) (grownCap_ge _ _ _ _) (fun i hi => by rw [hlen] at hi; simp [FT.put, upd]; exact hi) (fun i hi => ?_) (fun i hi => rfl) (fun i hi => ?_)
  · rw [hlen] at hi
    rw [Nat.zero_add]; exact Lib.bytesWorld_cell w e s i hi
  · rw [hlen] at hi
    have hi' : i < s.data.toList.length := by simpa using hi
    have : (byteCells s.data.toList)[i]'(by rw [hlen]; exact hi) = .int .u8 (s.data.toList.getD i 0).toNat := by
      simp [byteCells, List.getD, List.getElem?_eq_getElem hi']
    rw [this]; exact .int _ _

theorem runs_convSB {s d e : TypeId} {sz by' : Nat} {x : Operand} (ho : o.op = .convert s d x) (hs : tkind P s = some 2) (hd : telem P d = some (e, sz, by')) (he : tint P e = some .u8) {t : ByteArray} (hx : a.eval x = .string t) :
    Runs P o a w (.slice (some ⟨w.heap.size, 0, none⟩) t.size (grownCap w t.size 0 e)) (Lib.bytesWorld w e t) := by
  have := Lib.run_convert_string_bytes (P := P) w s d e t (tkind_2 hs) (telem_inv hd).1 (tint_inv he)
  simp only [Runs, execOp, ho, hx, Sem.run_bind, this, Result.andThen_ok, Sem.run_pure]

/-! ### Appends -/

theorem SR.grown (h : SR w0 F0 A n st a w G) {v : Value} (hv : ∀ b, v.ownBlock = some b → (G.ω b).loose = true ∧ (A b ∨ w0.heap.size ≤ b)) (hg : w.grownBy w' v.ownBlock)
    (hcell : ∀ b o u, v.ownBlock = some b → o < G.Fr b → w.cell? ⟨b, o, none⟩ = some u → w'.cell? ⟨b, o, none⟩ = some u) (hlt : ∀ b, v.ownBlock = some b → b < w.heap.size)
    (hshp : ∀ b cs e, v.ownBlock = some b → w.heap[b]? = some (.cells cs e (0, 0)) → ∃ cs', w'.heap[b]? = some (.cells cs' e (0, 0))) :
    SR w0 F0 A n st a w' G ∧ Ext w G.Fr w' G.Fr := by
  have hk : Kp w (fun b => v.ownBlock = some b) w' := ⟨hg.os, hg.tape, hg.output, hg.size, fun b hb hne => hg.block b hb (fun e => hne e.symm)⟩
  have hx : Ext w G.Fr w' G.Fr := ⟨fun _ => Nat.le_refl _, fun b o u ho hu => by
    by_cases hb : v.ownBlock = some b
    · exact hcell b o u hb ho hu
    · have hblt : b < w.heap.size := by
        rcases Nat.lt_or_ge b w.heap.size with h' | h'
        · exact h'
        · rw [h.fresh b h'] at ho; omega
      rw [← hu]; exact World.cell?_of_block (a := ⟨b, o, none⟩) (hk.block b hblt hb), fun _ _ h => h, fun b cs e _ h2 => by
    by_cases hb : v.ownBlock = some b
    · exact hshp b cs e hb h2
    · exact ⟨cs, by rw [hk.block b (Array.getElem?_eq_some_iff.1 h2).1 hb]; exact h2⟩⟩
  exact ⟨h.world _ (fun b hb => ⟨(hv b hb).2, (hv b hb).1⟩) hk hx (fun _ _ _ => rfl) (fun b hb => h.fresh b (Nat.le_trans hg.size hb)) h.heap.ids, hx⟩


theorem own_grown {b : Nat} {f : Bool} {e sz m : Nat} {xs ys : List AV} {vs us : List Value} {v v' : Value} {Fr : FT}
    (hO : OwnR w Fr b f e sz xs v) (hx : Ext w Fr w' Fr) (hown : w.ownsRow 0 e sz v (vs.length / sz) vs) (hvl : vs.length = xs.length) (hv' : w'.ownsRow 0 e sz v' (vs.length / sz + m) (vs ++ us))
    (hul : us.length = ys.length) (huc : ∀ c (hc : c < ys.length) (hc' : c < us.length), (us[c]).oneCell' = true ∧ CR w Fr ys[c] us[c]) {b' : Nat} (hb' : v'.ownBlock = some b') (hbb : b' = b ∨ Fr b' = 0) :
    OwnR w' Fr b' f e sz (xs ++ ys) v' := by
  obtain ⟨n', vs', ho, hob, hz, hl, hc, h1, h2⟩ := hO
  have hvs : vs = vs' := by
    rcases ho.2 with ⟨rfl, _⟩ | ⟨g, cap, cur, rfl, _, hg, hnc, _, _, ht⟩
    · simp [Value.ownBlock] at hob
    · rcases hown.2 with ⟨h0, _⟩ | ⟨g2, cap2, cur2, h0, _, hg2, _, _, _, ht2⟩
      · cases h0
      · injection h0 with e1 e2 e3; injection e1 with e1; injection e1 with e1
        subst e1
        rw [hg] at hg2; injection hg2 with hg2; injection hg2 with hg2; subst hg2
        rw [← ht, ← ht2, e2]
  subst hvs
  refine ⟨_, vs ++ us, hv', hb', hz, by rw [List.length_append, List.length_append, hl, hul], fun i hi hi' => ?_, ?_, fun hf => ?_⟩
  · by_cases hlt : i < xs.length
    · rw [List.getElem_append_left hlt, List.getElem_append_left (by omega)]
      exact ⟨(hc i hlt (by omega)).1, (hc i hlt (by omega)).2.ext hx⟩
    · rw [List.getElem_append_right (by omega), List.getElem_append_right (by omega)]
      simp only [List.length_append] at hi hi'
      have hk := huc (i - xs.length) (by omega) (by omega)
      simp only [hl]
      exact ⟨hk.1, hk.2.ext hx⟩
  · rcases hbb with rfl | h0
    · rw [List.length_append]; omega
    · rw [h0]; omega
  · rcases hbb with rfl | h0
    · exact h2 hf
    · exact h0

end Go.Proofs.YtcodfehgnjplcaaGreatDoor.Abs

/- Appends. -/
namespace Go.Proofs.YtcodfehgnjplcaaGreatDoor.Abs
set_option linter.all false
set_option linter.unusedVariables false

variable {P : Program} {w w' : World} {G G' : Gh} {a : Act} {o : Oper}
variable {w0 : World} {F0 : FT} {A : Nat → Prop} {n : Nat} {st : St} {β : Type} {t u ty : TypeId} {yv : Value}

structure AppR (w : World) (e sz : Nat) (v : Value) (m : Nat) (vs us : List Value) (v' : Value) (w' : World) (k : Nat) : Prop where
  row : w'.ownsRow 0 e sz v' (m + k) (vs ++ us)
  grown : w.grownBy w' v.ownBlock
  block : ∀ b, v'.ownBlock = some b → v.ownBlock = some b ∨ w.heap.size ≤ b
  isnil : v' = .slice none 0 0 ↔ v = .slice none 0 0 ∧ k = 0
  old : ∀ b, v.ownBlock = some b → v'.ownBlock ≠ some b → b < w.heap.size → w'.heap[b]? = w.heap[b]?

theorem ownBlock_of_row {e sz m : Nat} {v : Value} {vs : List Value} (h : w.ownsRow 0 e sz v m vs) (hn : v ≠ .slice none 0 0) : ∃ b, v.ownBlock = some b := by
  rcases h.2 with ⟨rfl, _⟩ | ⟨g, cap, cur, rfl, _⟩
  · exact absurd rfl hn
  · exact ⟨g, rfl⟩

theorem run_app_slice {t e sz by' : Nat} {ty : TypeId} (ht : telem P t = some (e, sz, by')) {v : Value} {m : Nat} {vs : List Value} (hown : w.ownsRow 0 e sz v m vs)
    {ad : Addr} {k c : Nat} {us : List Value} (hl : us.length = k * sz) (hus : ∀ j u, us[j]? = some u → w.cell? (ad.add j) = some u) (h1 : ∀ u ∈ us, u.oneCell' = true)
    (h63 : m + k ≤ maxLen) (hb : (m + k) * by' ≤ 140737488355328) :
    ∃ v' w', (Builtin.append_ #[t, t] ty #[v, .slice (some ad) k c]).run P w = .ok v' w' ∧ AppR w e sz v m vs us v' w' k := by
  obtain ⟨hu, i, z, hi, hz, hs, hby, hzs, hpos⟩ := telem_inv ht
  obtain ⟨v', w', hr, h2, h3, h4⟩ := run_append_own (P := P) w 0 t ty e i z sz by' hu hi hz hs hby hzs hpos v m vs hown ad k c us hl hus h1 h63 hb (Nat.zero_le _)
  suffices hh : (∀ b, v'.ownBlock = some b → v.ownBlock = some b ∨ w.heap.size ≤ b) ∧ (∀ b, v.ownBlock = some b → v'.ownBlock ≠ some b → b < w.heap.size → w'.heap[b]? = w.heap[b]?) from
    ⟨v', w', hr, h2, h3, hh.1, h4, hh.2⟩
  rcases hown.2 with ⟨rfl, rfl⟩ | ⟨g, cap, cur, rfl, hbg, hg, hnc, hcm, hcs, htake⟩
  · refine ⟨fun b hb' => ?_, fun b hb' => by simp [Value.ownBlock] at hb'⟩
    right
    have hvs : vs = [] := List.eq_nil_of_length_eq_zero (by simpa using hown.1)
    subst hvs
    obtain ⟨v2, w2, hr2, k2, _, _⟩ := run_append_own (P := P) w w.heap.size t ty e i z sz by' hu hi hz hs hby hzs hpos (.slice none 0 0) 0 [] (World.ownsRow_nil w _ e sz) ad k c us hl hus h1 (by omega) (by simpa using hb) (Nat.le_refl _)
    rw [hr] at hr2; injection hr2 with e1 e2; subst e1; subst e2
    exact (k2.lt b hb').1
  · by_cases hroom : m + k ≤ cap
    · obtain ⟨w2, hr2, _, _⟩ := run_append_fits (P := P) w 0 t ty e i sz hu hi hs g m cap vs hown ad k c us hl hus h1 hroom
      rw [hr] at hr2; injection hr2 with e1 e2; subst e1
      exact ⟨fun b hb' => .inl (by simpa [Value.ownBlock] using hb'), fun b hb' hn => absurd (by simpa [Value.ownBlock] using hb') hn⟩
    · subst hs; subst hby
      have holds : ∀ j u, vs[j]? = some u → w.cell? ((⟨g, 0, none⟩ : Addr).add j) = some u := hown.cells (g := g) rfl
      have hr2 := run_append_grow (P := P) w t ty e i z hu hi hz ⟨g, 0, none⟩ m cap vs hown.1 holds ad k c us hl hus (by omega) (by simp only [maxLen] at h63; omega) (growslice_fits (by omega) hb)
      rw [hr] at hr2; injection hr2 with e1 e2; subst e1; subst e2
      exact ⟨fun b hb' => .inr (by simp [Value.ownBlock] at hb'; omega), fun b _ _ hlt => heap_old w.drew _ b hlt⟩

theorem zeroByte_inv {e : TypeId} (h : zeroByte P e = true) {i : TypeInfo} (hi : P.info? e = some i) : i.zero = some (.int .u8 0) := by
  unfold zeroByte at h
  split at h
  · rename_i hz
    obtain ⟨i', v, hi', hv, hc⟩ := tzero_inv hz
    rw [hi] at hi'; injection hi' with hi'; subst hi'
    rw [hv]; congr 1
    unfold ofConst at hc
    split at hc
    · simp [Option.map_eq_some_iff] at hc
    · unfold ofCell at hc
      split at hc <;> simp at hc
      obtain ⟨rfl, rfl⟩ := hc; rfl
  · cases h

theorem run_app_str {t u e : Nat} {ty : TypeId} (ht : telem P t = some (e, 1, 1)) (hu : tkind P u = some 2) (hzb : zeroByte P e = true) {v : Value} {m : Nat} {vs : List Value} (hown : w.ownsRow 0 e 1 v m vs)
    {s : ByteArray} (h63 : m + s.size ≤ maxLen) (hb : m + s.size ≤ 140737488355328) :
    ∃ v' w', (Builtin.append_ #[t, u] ty #[v, .string s]).run P w = .ok v' w' ∧ AppR w e 1 v m vs (Lib.strCells s) v' w' s.size := by
  obtain ⟨hut, i, z, hi, hz, hs, hby, hzs, hpos⟩ := telem_inv ht
  have hz0 := zeroByte_inv hzb hi
  obtain ⟨v', w', hr, h2, h3, h4⟩ := Lib.run_append_own_string (P := P) (w := w) 0 t u ty e i hut (tkind_2 hu) hi hz0 hs hby v m vs hown s h63 hb (Nat.zero_le _)
  suffices hh : (∀ b, v'.ownBlock = some b → v.ownBlock = some b ∨ w.heap.size ≤ b) ∧ (∀ b, v.ownBlock = some b → v'.ownBlock ≠ some b → b < w.heap.size → w'.heap[b]? = w.heap[b]?) from
    ⟨v', w', hr, h2, h3, hh.1, h4, hh.2⟩
  rcases hown.2 with ⟨rfl, rfl⟩ | ⟨g, cap, cur, rfl, hbg, hg, hnc, hcm, hcs, htake⟩
  · refine ⟨fun b hb' => ?_, fun b hb' => by simp [Value.ownBlock] at hb'⟩
    right
    have hvs : vs = [] := List.eq_nil_of_length_eq_zero (by simpa using hown.1)
    subst hvs
    obtain ⟨v2, w2, hr2, k2, _, _⟩ := Lib.run_append_own_string (P := P) (w := w) w.heap.size t u ty e i hut (tkind_2 hu) hi hz0 hs hby (.slice none 0 0) 0 [] (World.ownsRow_nil w _ e 1) s (by omega) (by omega) (Nat.le_refl _)
    rw [hr] at hr2; injection hr2 with e1 e2; subst e1; subst e2
    exact (k2.lt b hb').1
  · by_cases hroom : m + s.size ≤ cap
    · have hr2 := Lib.run_append_room_string (P := P) (w := w) t u ty e i hut (tkind_2 hu) hi hs g m cap cur hg s hroom (by omega)
      rw [hr] at hr2; injection hr2 with e1 e2; subst e1
      exact ⟨fun b hb' => .inl (by simpa [Value.ownBlock] using hb'), fun b hb' hn => absurd (by simpa [Value.ownBlock] using hb') hn⟩
    · have holds : ∀ j u, vs[j]? = some u → w.cell? ((⟨g, 0, none⟩ : Addr).add j) = some u := hown.cells (g := g) rfl
      have hr2 := Lib.run_append_grow_string (P := P) (w := w) t u ty e i _ hut (tkind_2 hu) hi hz0 ⟨g, 0, none⟩ m cap vs (by rw [hs]; exact hown.1) holds s (by omega) (by simp only [maxLen] at h63; omega) (growslice_fits (by omega) (by rw [hby]; omega))
      rw [hr] at hr2; injection hr2 with e1 e2; subst e1; subst e2
      exact ⟨fun b hb' => .inr (by simp [Value.ownBlock] at hb'; omega), fun b _ _ hlt => heap_old w.drew _ b hlt⟩

theorem run_app_nil {t e sz by' : Nat} {ty : TypeId} (ht : telem P t = some (e, sz, by')) {v : Value} {m : Nat} {vs : List Value} (hown : w.ownsRow 0 e sz v m vs) :
    ∃ v' w', (Builtin.append_ #[t, t] ty #[v, .slice none 0 0]).run P w = .ok v' w' ∧ AppR w e sz v m vs [] v' w' 0 := by
  obtain ⟨hu, i, z, hi, hz, hs, hby, hzs, hpos⟩ := telem_inv ht
  refine ⟨v, w, run_append_owned_none (P := P) w 0 t ty e i sz hu hi v m vs hown, by simpa using hown, ⟨rfl, rfl, rfl, Nat.le_refl _, fun _ _ _ => rfl⟩, fun b hb => .inl hb, by simp, fun b hb hn => absurd hb hn⟩

theorem runs_append {t u : TypeId} {x y : Operand} {args : Array Operand} {ats : Array TypeId} (ho : o.op = .call ⟨.builtin .append, args, ats⟩) (h1 : args.toList = [x, y]) (h2 : ats.toList = [t, u])
    {v' : Value} (hr : (Builtin.append_ #[t, u] o.type #[a.eval x, a.eval y]).run P w = .ok v' w') : Runs P o a w v' w' := by
  obtain rfl := arr2 h1
  obtain rfl := arr2 h2
  simp [Runs, execOp, ho, resolve, invoke, builtin, hr]

theorem app_sound (h : SR w0 F0 A n st a w G) {bv : AV} {v : Value} (hb : TR w G (fun _ => .mid) bv v) {e sz by' : Nat} (hsz : 0 < sz) {ys : List AV} {us : List Value} {k : Nat} (hyl : ys.length = k * sz) (hul : us.length = ys.length)
    (huc : ∀ c (hc : c < ys.length) (hc' : c < us.length), (us[c]).oneCell' = true ∧ CR w G.Fr ys[c] us[c]) {r : AV}
    (hrun : ∀ m vs, w.ownsRow 0 e sz v m vs → m + k ≤ maxLen → (m + k) * by' ≤ tooLong → ∃ v' w', (Builtin.append_ #[t, u] ty #[v, yv]).run P w = .ok v' w' ∧ AppR w e sz v m vs us v' w' k)
    (hr : (match bv with
      | .slice c e' sz' xs => if ((xs.length + ys.length) / sz) * by' ≤ tooLong ∧ (xs.length + ys.length) ≤ tooLong then
          match c with
          | .nil => if ys.length = 0 then some (.slice .nil 0 1 []) else some (.slice (.own true) e sz ys)
          | .own f => if e' = e ∧ sz' = sz then some (.slice (.own f) e sz (xs ++ ys)) else none
          | _ => none
        else none
      | _ => none) = some r) (q : Nat → Pos) (hq : q 0 ≠ .free) :
    ∃ v' w' G', (Builtin.append_ #[t, u] ty #[v, yv]).run P w = .ok v' w' ∧ SR w0 F0 A n st a w' G' ∧ TR w' G' q r v' ∧ Ext w G.Fr w' G'.Fr ∧ (∀ b, G.ω b ≠ .mid → b < w.heap.size → w'.heap[b]? = w.heap[b]? ∧ G'.ω b = G.ω b) ∧ G'.β = G.β := by
  split at hr
  · rename_i c e' sz' xs
    split at hr
    · rename_i hbound
      split at hr
      · -- nil
        obtain ⟨_, _, _, hv, _, hn, _⟩ := TR_slice hb
        obtain ⟨hv', hxs⟩ := hn rfl
        subst hxs
        rw [hv'] at hrun ⊢
        have hkk : ys.length / sz = k := by rw [hyl, Nat.mul_div_cancel _ hsz]
        simp only [List.length_nil, Nat.zero_add] at hbound
        rw [hkk] at hbound
        have hkl : k ≤ ys.length := by rw [hyl]; exact Nat.le_mul_of_pos_right _ hsz
        obtain ⟨v', w', hr', hA⟩ := hrun 0 [] (World.ownsRow_nil w 0 e sz) (by simp only [maxLen, tooLong] at *; omega) (by rw [Nat.zero_add]; exact hbound.1)
        obtain ⟨hS, hE⟩ := h.grown (v := .slice none 0 0) (fun b hb => by simp [Value.ownBlock] at hb) hA.grown (fun b o u hb => by simp [Value.ownBlock] at hb) (fun b hb => by simp [Value.ownBlock] at hb) (fun b cs e hb => by simp [Value.ownBlock] at hb)
        have hkeep : ∀ b, G.ω b ≠ .mid → b < w.heap.size → w'.heap[b]? = w.heap[b]? := fun b _ hlt => hA.grown.block b hlt (by simp [Value.ownBlock])
        by_cases h0 : ys.length = 0
        · rw [if_pos h0] at hr; injection hr with hr; subst hr
          have hk0 : k = 0 := by rw [hyl] at h0; rcases Nat.mul_eq_zero.1 h0 with h | h; { exact h }; { omega }
          have hvn : v' = .slice none 0 0 := hA.isnil.2 ⟨rfl, hk0⟩
          exact ⟨v', w', G, hr', hS, by rw [hvn]; exact TR_of_CR (.nil _ _), hE, fun b hb hlt => ⟨hkeep b hb hlt, rfl⟩, rfl⟩
        · rw [if_neg h0] at hr; injection hr with hr; subst hr
          have hk0 : k ≠ 0 := fun e => h0 (by rw [hyl, e]; simp)
          have hvn : v' ≠ .slice none 0 0 := fun e => hk0 (hA.isnil.1 e).2
          obtain ⟨b', hb'⟩ := ownBlock_of_row hA.row hvn
          have hnew : w.heap.size ≤ b' := by rcases hA.block b' hb' with h' | h'; { simp [Value.ownBlock] at h' }; { exact h' }
          have hfree := h.new_free hnew
          have hlt := (hA.row.lt b' hb').2
          have hS2 := hS.relabel (b := b') (by rw [hfree]; rfl) hlt (.inr (Nat.le_trans h.kept.size hnew)) (q 0)
          refine ⟨v', w', _, hr', hS2, TR_of_TC ⟨b', by simp [upd], 0 + k, us, by simpa using hA.row, hb', hsz, hul, fun i hi hi' => ⟨(huc i hi hi').1, (huc i hi hi').2.ext hE⟩, ?_, fun _ => h.fresh b' hnew⟩ rfl, hE, fun b hb hlt' => ⟨hkeep b hb hlt', ?_⟩, rfl⟩
          · show G.Fr b' ≤ _
            rw [h.fresh b' hnew]; omega
          · show upd G.ω b' (q 0) b = G.ω b
            rw [upd_ne _ _ _ _ (by omega)]
      · -- own
        rename_i f
        split at hr
        · rename_i hee
          obtain ⟨rfl, rfl⟩ := hee
          injection hr with hr; subst hr
          obtain ⟨b, hbω, hO⟩ := TC_of_TR hb rfl
          have hO' := hO
          obtain ⟨m, vs, ho, hob, hz, hl, hc, hf1, hf2⟩ := hO
          have hm : xs.length = m * sz' := by rw [← hl]; exact ho.1
          have hmk : (xs.length + ys.length) / sz' = m + k := by rw [hm, hyl, ← Nat.add_mul, Nat.mul_div_cancel _ hsz]
          rw [hmk] at hbound
          have hle : m + k ≤ xs.length + ys.length := by rw [hm, hyl, ← Nat.add_mul]; exact Nat.le_mul_of_pos_right _ hsz
          obtain ⟨v', w', hr', hA⟩ := hrun m vs ho (by simp only [maxLen, tooLong] at *; omega) hbound.1
          have hnil : v ≠ .slice none 0 0 := fun e => by rw [e] at hob; simp [Value.ownBlock] at hob
          have hvn : v' ≠ .slice none 0 0 := fun e => hnil (hA.isnil.1 e).1
          obtain ⟨b', hb'⟩ := ownBlock_of_row hA.row hvn
          have hbm := h.mine b (by rw [hbω]; simp)
          have hcell : ∀ b2 o2 u2, v.ownBlock = some b2 → o2 < G.Fr b2 → w.cell? ⟨b2, o2, none⟩ = some u2 → w'.cell? ⟨b2, o2, none⟩ = some u2 := by
            intro b2 o2 u2 hb2 ho2 hu2
            rw [hob] at hb2; injection hb2 with hb2; subst hb2
            have ho2' : o2 < vs.length := by omega
            have e1 := ho.cells hob o2 vs[o2] (List.getElem?_eq_getElem ho2')
            have eadd : (⟨b, 0, none⟩ : Addr).add o2 = ⟨b, o2, none⟩ := by unfold Addr.add; split <;> simp_all
            rw [eadd, hu2] at e1; injection e1 with e1
            rcases hA.block b' hb' with h' | h'
            · rw [hob] at h'; injection h' with h'; subst h'
              have e2 := hA.row.cells hb' o2 vs[o2] (by rw [List.getElem?_append_left ho2']; exact List.getElem?_eq_getElem ho2')
              rw [eadd] at e2; rw [e2, e1]
            · -- grown: the old row stands
              have e2 := hA.old b hob (by rw [hb']; intro e; injection e with e; subst e; omega) hbm.1
              unfold World.cell? at hu2 ⊢
              rw [e2]; exact hu2
          have hshp : ∀ b2 cs2 e2, v.ownBlock = some b2 → w.heap[b2]? = some (.cells cs2 e2 (0, 0)) → ∃ cs', w'.heap[b2]? = some (.cells cs' e2 (0, 0)) := by
            intro b2 cs2 e2 hb2 h2
            rw [hob] at hb2; injection hb2 with hb2; subst hb2
            rcases hA.block b' hb' with h' | h'
            · rw [hob] at h'; injection h' with h'; subst h'
              have ee : e2 = e' := by
                rcases ho.2 with ⟨h0, _⟩ | ⟨g, cap, cur, h0, _, hg, _⟩
                · exact absurd h0 hnil
                · rw [h0] at hob; simp only [Value.ownBlock, Option.some.injEq] at hob; subst hob
                  rw [hg] at h2; injection h2 with h2; injection h2 with _ h2; exact h2.symm
              rcases hA.row.2 with ⟨h0, _⟩ | ⟨g, cap, cur, h0, _, hg, _⟩
              · exact absurd h0 hvn
              · rw [h0] at hb'; simp only [Value.ownBlock, Option.some.injEq] at hb'; subst hb'
                exact ⟨cur, by rw [hg, ee]⟩
            · have e2 := hA.old b hob (by rw [hb']; intro e; injection e with e; subst e; omega) hbm.1
              exact ⟨cs2, by rw [e2]; exact h2⟩
          obtain ⟨hS, hE⟩ := h.grown (v := v) (fun b2 hb2 => by rw [hob] at hb2; injection hb2 with hb2; subst hb2; exact ⟨by rw [hbω]; rfl, hbm.2⟩) hA.grown hcell (fun b2 hb2 => by rw [hob] at hb2; injection hb2 with hb2; subst hb2; exact hbm.1) hshp
          have hloose : (G.ω b').loose = true ∧ (A b' ∨ w0.heap.size ≤ b') ∧ (b' = b ∨ G.Fr b' = 0) := by
            rcases hA.block b' hb' with h' | h'
            · rw [hob] at h'; injection h' with h'; subst h'; exact ⟨by rw [hbω]; rfl, hbm.2, .inl rfl⟩
            · exact ⟨by rw [h.new_free h']; rfl, .inr (Nat.le_trans h.kept.size h'), .inr (h.fresh b' h')⟩
          have hS2 := hS.relabel (b := b') hloose.1 (hA.row.lt b' hb').2 hloose.2.1 (q 0)
          have hml : vs.length / sz' = m := by rw [ho.1, Nat.mul_div_cancel _ hsz]
          have hO2 := own_grown hO' hE (by rw [hml]; exact ho) hl (by rw [hml]; exact hA.row) hul huc hb' hloose.2.2
          refine ⟨v', w', _, hr', hS2, TR_of_TC ⟨b', by simp [upd], hO2⟩ rfl, hE, fun b2 hb2 hlt => ⟨hA.grown.block b2 hlt (fun e => hb2 (by rw [hob] at e; injection e with e; subst e; exact hbω)), ?_⟩, rfl⟩
          show upd G.ω b' (q 0) b2 = G.ω b2
          refine upd_ne _ _ _ _ (fun e => ?_)
          subst e
          rcases hA.block b2 hb' with h' | h'
          · rw [hob] at h'; injection h' with h'; subst h'; exact hb2 hbω
          · omega
        · cases hr
      · cases hr
    · cases hr
  · cases hr

end Go.Proofs.YtcodfehgnjplcaaGreatDoor.Abs
