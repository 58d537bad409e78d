/- A15, A16, A17, A18, H1 -/
import Derived.Test.YticoldgiebmmgaaGreatDoorA14
import Derived.Laws.OwnMore
import Derived.Laws.MakeOwn
/- Stores, conversions of texts to bytes, appends: what they leave. -/
namespace Go.Proofs.YticoldgiebmmgaaGreatDoor.Abs
set_option linter.all false
set_option linter.unusedVariables false

variable {P : Program} {w w' : World} {G G' : Gh} {a : Act} {o : Oper}
variable {w0 : World} {F0 : FT} {A : Nat → Prop} {n : Nat} {st : St} {β : Type}

/-! ### Stores -/

theorem cells_TC {p : Nat → Pos} {s : K} {off : Nat} (hp : p 0 = .cell s off) {x : AV} {v : Value} (hpl : x.plain = true) (h : TR w G p x v) :
    v.cells.size = x.cells.length ∧ ∀ c (hc : c < x.cells.length) (hc' : c < v.cells.size), (v.cells[c]).oneCell' = true ∧ TC w G (.cell s (off + c)) x.cells[c] v.cells[c] := by
  by_cases hown : x.isOwn = true
  · cases x with
    | slice c e sz xs => cases c with
      | own f =>
        have h' := TC_of_TR h rfl
        obtain ⟨b, hb, hO⟩ := h'
        obtain ⟨oo, m, cap, rfl, _⟩ := TR_slice h
        refine ⟨rfl, fun c hc hc' => ?_⟩
        obtain rfl : c = 0 := by simp [AV.cells] at hc; exact hc
        exact ⟨rfl, b, by rw [hb, hp]; simp, hO⟩
      | _ => simp [AV.isOwn] at hown
    | _ => simp [AV.isOwn] at hown
  · have hC := CR_of_TC (TC_of_TR h hpl) (by simpa using hown)
    obtain ⟨h1, h2⟩ := cells_RowR hC
    exact ⟨h1, fun c hc hc' => ⟨(h2 c hc hc').1, TC_of_CR (h2 c hc hc').2⟩⟩

def arrPut (cur us : Array Value) (off : Nat) : Array Value := (cur.toList.take off ++ us.toList ++ cur.toList.drop (off + us.toList.length)).toArray
theorem arrPut_size {cur us : Array Value} {off : Nat} (h : off + us.size ≤ cur.size) : (arrPut cur us off).size = cur.size := by simp [arrPut]; omega
theorem arrPut_get {cur us : Array Value} {off : Nat} (h : off + us.size ≤ cur.size) (i : Nat) : (arrPut cur us off)[i]? = if off ≤ i ∧ i < off + us.size then us[i - off]? else cur[i]? := by
  unfold arrPut
  simp only [List.getElem?_toArray]
  have hto : (cur.toList.take off).length = off := by simp; omega
  by_cases c1 : i < off
  · rw [if_neg (by omega), List.append_assoc, List.getElem?_append_left (by rw [hto]; exact c1), List.getElem?_take_of_lt c1]; simp
  · by_cases c2 : i < off + us.size
    · rw [if_pos (by omega), List.getElem?_append_left (by rw [List.length_append, hto]; simpa using c2), List.getElem?_append_right (by rw [hto]; omega), hto]; simp
    · rw [if_neg (by omega), List.getElem?_append_right (by rw [List.length_append, hto]; simp; omega), List.length_append, hto, List.getElem?_drop]
      simp only [Array.length_toList]
      rw [show off + us.size + (i - (off + us.size)) = i by omega]; simp

theorem runs_store {t : TypeId} {x y : Operand} (ho : o.op = .store t x y) {k : Nat} (hn : tsize P t = some k) {g off : Nat} (hx : a.eval x = .pointer (some ⟨g, off, none⟩)) {cur : Array Value} {e : TypeId}
    (hg : w.heap[g]? = some (.cells cur e (0, 0))) (hk : (a.eval y).cells.size = k) (hle : off + k ≤ cur.size) (h1 : ∀ v ∈ (a.eval y).cells.toList, v.oneCell' = true) :
    (execOp a.eval o).run P w = .ok .skip (w.setRow g (arrPut cur (a.eval y).cells off)) := by
  have hst := run_storeCells_at P g off e (a.eval y).cells.toList 0 cur w hg (by simp only [Nat.add_zero, Array.length_toList]; omega) h1
  simp only [Nat.add_zero] at hst
  have hsv : (storeVar t ⟨g, off, none⟩ (a.eval y)).run P w = .ok () (w.setRow g (arrPut cur (a.eval y).cells off)) := by
    unfold storeVar
    simp only [Sem.run_bind, run_sizeOf' hn, Result.andThen_ok]
    rw [if_neg (by rw [hk]; simp)]
    exact hst
  simp only [execOp, ho, hx, Instr.storeAt, Instr.sureAddr, Sem.run_bind, Sem.run_pure, Result.andThen_ok, hsv]

theorem splice_rel {Rel : Nat → AV → Value → Prop} {cs ys : List AV} {cur us : Array Value} {off : Nat} (hle : off + ys.length ≤ cs.length) (hcs : cs.length ≤ cur.size) (hu : us.size = ys.length)
    (h : ∀ c (h : c < cs.length) (h' : c < cur.size), Rel c cs[c] cur[c]) (hy : ∀ c (hc : c < ys.length) (hc' : c < us.size), Rel (off + c) ys[c] us[c]) :
    ∀ c (hc : c < (splice cs off ys).length) (hc' : c < (arrPut cur us off).size), Rel c (splice cs off ys)[c] (arrPut cur us off)[c] := by
  intro c hc1 hc2
  have hsp := splice_get hle c
  have hr := arrPut_get (cur := cur) (us := us) (off := off) (by omega) c
  rw [List.getElem?_eq_getElem hc1] at hsp
  rw [Array.getElem?_eq_getElem hc2] at hr
  by_cases hin : off ≤ c ∧ c < off + ys.length
  · rw [if_pos hin] at hsp; rw [if_pos (by omega)] at hr
    have hl : c - off < ys.length := by omega
    have hl' : c - off < us.size := by omega
    rw [List.getElem?_eq_getElem hl] at hsp; rw [Array.getElem?_eq_getElem hl'] at hr
    injection hsp with hsp; injection hr with hr
    rw [hsp, hr]
    have := hy (c - off) hl hl'
    rw [show off + (c - off) = c by omega] at this
    exact this
  · rw [if_neg hin] at hsp; rw [if_neg (by omega)] at hr
    have hl : c < cs.length := by rw [splice_length hle] at hc1; exact hc1
    have hl' : c < cur.size := by omega
    rw [List.getElem?_eq_getElem hl] at hsp; rw [Array.getElem?_eq_getElem hl'] at hr
    injection hsp with hsp; injection hr with hr
    rw [hsp, hr]
    exact h c hl hl'

theorem SR.written (h : SR w0 F0 A n st a w G) {s : K} {ob ob' : Obj} (hs : st.at s = some ob) {t : Th} (hg : G.at s = some t) (hω : G.ω t.b = .box s) (hF : G.Fr t.b = 0) (new : Array Value)
    (hnew : (∀ p, p ≠ .box s → ∀ c x v, p = .cell s c → TC w G p x v → TC (w.setRow t.b new) G p x v) → Ext w G.Fr (w.setRow t.b new) G.Fr → ObjR (w.setRow t.b new) G s t ob') :
    SR w0 F0 A n (st.setAt s ob') a (w.setRow t.b new) G := by
  have hmine := h.mine t.b (by rw [hω]; simp)
  have hx : Ext w G.Fr (w.setRow t.b new) G.Fr := ext_setRow hF new
  have hkeep : ∀ (p : Pos), p ≠ .box s → ∀ b, G.ω b = p → b < w.heap.size → (w.setRow t.b new).heap[b]? = w.heap[b]? ∧ G.Fr b = G.Fr b ∧ G.ω b = p := by
    intro p hp b hb _
    exact ⟨setRow_other w t.b b new (fun e => by subst e; exact hp (hb.symm.trans hω)), rfl, hb⟩
  exact h.setBox (w' := w.setRow t.b new) (G' := G) hs hx rfl rfl (fun p _ hp => hkeep p hp) ⟨t, hg, hω, by rw [size_setRow]; exact hmine.1, hnew (fun p hp c x v _ hT => hT.keeps hx (hkeep p hp)) hx⟩
    (kp_setRow h.kept hmine.2 new) (fun b hb => by rw [size_setRow]; exact h.mine b hb) h.same (fun b hb => h.fresh b (by rw [size_setRow] at hb; exact hb))

theorem SR.store (h : SR w0 F0 A n st a w G) {s : K} {off : Nat} {cs ys : List AV} {us : Array Value} (hs : st.at s = some (.cells cs)) (hle : off + ys.length ≤ cs.length) (hu : us.size = ys.length)
    (hy : ∀ c (hc : c < ys.length) (hc' : c < us.size), (us[c]).oneCell' = true ∧ TC w G (.cell s (off + c)) ys[c] us[c]) {t : Th} (hg : G.at s = some t) {cur : Array Value} {e : TypeId} (hcur : w.heap[t.b]? = some (.cells cur e (0, 0))) :
    SR w0 F0 A n (st.setAt s (.cells (splice cs off ys))) a (w.setRow t.b (arrPut cur us off)) G := by
  obtain ⟨t', h1, h2, h3, j1, j2, vs, h4, h5, h6⟩ := h.at hs
  rw [hg] at h1; injection h1 with h1; subst h1
  rw [hcur] at h4; injection h4 with h4; injection h4 with h4 h4'; subst h4; subst h4'
  refine h.written hs hg h2 j1 _ (fun hk hx => ?_)
  refine ⟨j1, j2, arrPut cur us off, setRow_heap w t.b cur _ t.e _ hcur, by rw [arrPut_size (by omega), splice_length hle]; exact h5, ?_⟩
  refine splice_rel (Rel := fun c x v => v.oneCell' = true ∧ TC (w.setRow t.b (arrPut cur us off)) G (.cell s c) x v) hle (by omega) hu (fun c hc1 hc2 => ?_) (fun c hc1 hc2 => ?_)
  · exact ⟨(h6 c hc1 hc2).1, hk _ (by simp) c _ _ rfl (h6 c hc1 hc2).2⟩
  · exact ⟨(hy c hc1 hc2).1, hk _ (by simp) _ _ _ rfl (hy c hc1 hc2).2⟩

theorem splice_get2 {xs ys : List AV} {off : Nat} (h : off ≤ xs.length) (i : Nat) : (splice xs off ys)[i]? = if off ≤ i ∧ i < off + ys.length then ys[i - off]? else xs[i]? := by
  unfold splice
  have hto : (xs.take off).length = off := by simp; omega
  by_cases h1 : i < off
  · rw [if_neg (by omega), List.append_assoc, List.getElem?_append_left (by rw [hto]; exact h1), List.getElem?_take_of_lt h1]
  · by_cases h2 : i < off + ys.length
    · rw [if_pos (by omega), List.getElem?_append_left (by rw [List.length_append, hto]; exact h2), List.getElem?_append_right (by rw [hto]; omega), hto]
    · rw [if_neg (by omega), List.getElem?_append_right (by rw [List.length_append, hto]; omega), List.length_append, hto, List.getElem?_drop]
      congr 1; omega
theorem splice_length2 {xs ys : List AV} {off : Nat} (h : off ≤ xs.length) : (splice xs off ys).length = max xs.length (off + ys.length) := by
  unfold splice; simp; omega
theorem splice_rel2 {Rel : Nat → AV → Value → Prop} {cs ys : List AV} {cur us : Array Value} {off : Nat} (hlo : off ≤ cs.length) (hle : off + ys.length ≤ cur.size) (hcs : cs.length ≤ cur.size) (hu : us.size = ys.length)
    (h : ∀ c (h : c < cs.length) (h' : c < cur.size), Rel c cs[c] cur[c]) (hy : ∀ c (hc : c < ys.length) (hc' : c < us.size), Rel (off + c) ys[c] us[c]) :
    ∀ c (hc : c < (splice cs off ys).length) (hc' : c < (arrPut cur us off).size), Rel c (splice cs off ys)[c] (arrPut cur us off)[c] := by
  intro c hc1 hc2
  have hsp := splice_get2 (ys := ys) hlo c
  have hr := arrPut_get (cur := cur) (us := us) (off := off) (by omega) c
  have hlen := splice_length2 (ys := ys) hlo
  rw [List.getElem?_eq_getElem hc1] at hsp
  rw [Array.getElem?_eq_getElem hc2] at hr
  by_cases hin : off ≤ c ∧ c < off + ys.length
  · rw [if_pos hin] at hsp; rw [if_pos (by omega)] at hr
    have hl : c - off < ys.length := by omega
    have hl' : c - off < us.size := by omega
    rw [List.getElem?_eq_getElem hl] at hsp; rw [Array.getElem?_eq_getElem hl'] at hr
    injection hsp with hsp; injection hr with hr
    rw [hsp, hr]
    have := hy (c - off) hl hl'
    rw [show off + (c - off) = c by omega] at this
    exact this
  · rw [if_neg hin] at hsp; rw [if_neg (by omega)] at hr
    have hl : c < cs.length := by
      rcases Nat.lt_or_ge c cs.length with h' | h'
      · exact h'
      · rw [hlen] at hc1; omega
    have hl' : c < cur.size := by omega
    rw [List.getElem?_eq_getElem hl] at hsp; rw [Array.getElem?_eq_getElem hl'] at hr
    injection hsp with hsp; injection hr with hr
    rw [hsp, hr]
    exact h c hl hl'

theorem SR.storeRow (h : SR w0 F0 A n st a w G) {s : K} {off e1 sz : Nat} {cp : Option Nat} {cs ys : List AV} {us : Array Value} (hs : st.at s = some (.row e1 sz cp cs)) (hlo : off ≤ cs.length) (hu : us.size = ys.length)
    (hy : ∀ c (hc : c < ys.length) (hc' : c < us.size), (us[c]).oneCell' = true ∧ CR w G.Fr ys[c] us[c]) {t : Th} (hg : G.at s = some t) (hN : t.r = true → off + ys.length ≤ t.N) (hm : ∃ m, (splice cs off ys).length = m * sz)
    {cur : Array Value} {e : TypeId} (hcur : w.heap[t.b]? = some (.cells cur e (0, 0))) :
    SR w0 F0 A n (st.setAt s (.row e1 sz cp (splice cs off ys))) a (w.setRow t.b (arrPut cur us off)) G := by
  obtain ⟨t', h1, h2, h3, j1, j2, j3, j4, j5, j6, j7, vs, h4, h5, h6⟩ := h.at hs
  rw [hg] at h1; injection h1 with h1; subst h1
  rw [hcur] at h4; injection h4 with h4; injection h4 with h4 h4'; subst h4; subst h4'
  have hle := hN j2
  have hlen := splice_length2 (ys := ys) hlo
  refine h.written hs hg h2 j1 _ (fun hk hx => ?_)
  refine ⟨j1, j2, j3, j4, j5, by omega, hm, arrPut cur us off, setRow_heap w t.b cur _ t.e _ hcur, by rw [arrPut_size (by omega)]; exact h5, ?_⟩
  refine splice_rel2 (Rel := fun c x v => v.oneCell' = true ∧ CR (w.setRow t.b (arrPut cur us off)) G.Fr x v) hlo (by omega) (by omega) hu (fun c hc1 hc2 => ?_) (fun c hc1 hc2 => ?_)
  · exact ⟨(h6 c hc1 hc2).1, (h6 c hc1 hc2).2.ext hx⟩
  · exact ⟨(hy c hc1 hc2).1, (hy c hc1 hc2).2.ext hx⟩

/-! ### A text's bytes -/
theorem kp_bytes (w : World) (e : TypeId) (s : ByteArray) : Kp w (fun _ => False) (Lib.bytesWorld w e s) :=
  ⟨rfl, rfl, rfl, by rw [Lib.bytesWorld_size]; omega, fun b hb _ => Lib.bytesWorld_at_old w e s b hb⟩

theorem SR.bytes (h : SR w0 F0 A n st a w G) (e : TypeId) (s : ByteArray) :
    ∃ G', SR w0 F0 A n st a (Lib.bytesWorld w e s) G' ∧ CR (Lib.bytesWorld w e s) G'.Fr (.slice .frz e 1 (byteCells s.data.toList)) (.slice (some ⟨w.heap.size, 0, none⟩) s.size (grownCap w s.size 0 e)) ∧ G'.β = G.β ∧ Ext w G.Fr (Lib.bytesWorld w e s) G'.Fr := by
  have hk := kp_bytes w e s
  have hx : Ext w G.Fr (Lib.bytesWorld w e s) (G.Fr.put w.heap.size s.size) :=
    ⟨fun b => by simp only [FT.put, upd]; split; { rw [h.fresh b (by omega)]; omega }; { exact Nat.le_refl _ }, fun b o v ho hv => by
      have hlt : b < w.heap.size := by
        rcases Nat.lt_or_ge b w.heap.size with h' | h'
        · exact h'
        · rw [h.fresh b h'] at ho; omega
      rw [← hv]; exact Lib.bytesWorld_old w e s ⟨b, o, none⟩ hlt, fun _ _ h => h, fun b cs e' h1 h2 => ⟨cs, by rw [hk.block b (Array.getElem?_eq_some_iff.1 h2).1 id]; exact h2⟩⟩
  refine ⟨⟨G.Fr.put w.heap.size s.size, G.β, G.ω⟩, h.world (fun _ => False) (fun _ h => h.elim) hk hx (fun b hb _ => FT.put_ne _ _ _ _ (by omega)) (fun b hb => by
    rw [Lib.bytesWorld_size] at hb; rw [FT.put_ne _ _ _ _ (by omega)]; exact h.fresh b (by omega)) h.heap.ids, ?_, rfl, hx⟩
  have hlen : (byteCells s.data.toList).length = s.size := by simp [byteCells]
  refine .frz e 1 s.size _ ⟨w.heap.size, 0, none⟩ _ (fun i => .int .u8 (s.data.toList.getD i 0).toNat) (fun _ => rfl) (by omega) (by rw [hlen]; omega) (grownCap_ge _ _ _ _) (fun i hi => by rw [hlen] at hi; simp [FT.put, upd]; exact hi) (fun i hi => ?_) (fun i hi => rfl) (fun i hi => ?_)
  · rw [hlen] at hi
    rw [Nat.zero_add]; exact Lib.bytesWorld_cell w e s i hi
  · rw [hlen] at hi
    have hi' : i < s.data.toList.length := by simpa using hi
    have : (byteCells s.data.toList)[i]'(by rw [hlen]; exact hi) = .int .u8 (s.data.toList.getD i 0).toNat := by
      simp [byteCells, List.getD, List.getElem?_eq_getElem hi']
    rw [this]; exact .int _ _

theorem runs_convSB {s d e : TypeId} {sz by' : Nat} {x : Operand} (ho : o.op = .convert s d x) (hs : tkind P s = some 2) (hd : telem P d = some (e, sz, by')) (he : tint P e = some .u8) {t : ByteArray} (hx : a.eval x = .string t) :
    Runs P o a w (.slice (some ⟨w.heap.size, 0, none⟩) t.size (grownCap w t.size 0 e)) (Lib.bytesWorld w e t) := by
  have := Lib.run_convert_string_bytes (P := P) w s d e t (tkind_2 hs) (telem_inv hd).1 (tint_inv he)
  simp only [Runs, execOp, ho, hx, Sem.run_bind, this, Result.andThen_ok, Sem.run_pure]

/-! ### Appends -/

theorem SR.grown (h : SR w0 F0 A n st a w G) {v : Value} (hv : ∀ b, v.ownBlock = some b → (G.ω b).loose = true ∧ (A b ∨ w0.heap.size ≤ b)) (hg : w.grownBy w' v.ownBlock)
    (hcell : ∀ b o u, v.ownBlock = some b → o < G.Fr b → w.cell? ⟨b, o, none⟩ = some u → w'.cell? ⟨b, o, none⟩ = some u) (hlt : ∀ b, v.ownBlock = some b → b < w.heap.size)
    (hshp : ∀ b cs e, v.ownBlock = some b → w.heap[b]? = some (.cells cs e (0, 0)) → ∃ cs', w'.heap[b]? = some (.cells cs' e (0, 0))) :
    SR w0 F0 A n st a w' G ∧ Ext w G.Fr w' G.Fr := by
  have hk : Kp w (fun b => v.ownBlock = some b) w' := ⟨hg.os, hg.tape, hg.output, hg.size, fun b hb hne => hg.block b hb (fun e => hne e.symm)⟩
  have hx : Ext w G.Fr w' G.Fr := ⟨fun _ => Nat.le_refl _, fun b o u ho hu => by
    by_cases hb : v.ownBlock = some b
    · exact hcell b o u hb ho hu
    · have hblt : b < w.heap.size := by
        rcases Nat.lt_or_ge b w.heap.size with h' | h'
        · exact h'
        · rw [h.fresh b h'] at ho; omega
      rw [← hu]; exact World.cell?_of_block (a := ⟨b, o, none⟩) (hk.block b hblt hb), fun _ _ h => h, fun b cs e _ h2 => by
    by_cases hb : v.ownBlock = some b
    · exact hshp b cs e hb h2
    · exact ⟨cs, by rw [hk.block b (Array.getElem?_eq_some_iff.1 h2).1 hb]; exact h2⟩⟩
  exact ⟨h.world _ (fun b hb => ⟨(hv b hb).2, (hv b hb).1⟩) hk hx (fun _ _ _ => rfl) (fun b hb => h.fresh b (Nat.le_trans hg.size hb)) h.heap.ids, hx⟩


theorem own_grown {b : Nat} {f : Bool} {e sz m : Nat} {xs ys : List AV} {vs us : List Value} {v v' : Value} {Fr : FT}
    (hO : OwnR w Fr b f e sz xs v) (hx : Ext w Fr w' Fr) (hown : w.ownsRow 0 e sz v (vs.length / sz) vs) (hvl : vs.length = xs.length) (hv' : w'.ownsRow 0 e sz v' (vs.length / sz + m) (vs ++ us))
    (hul : us.length = ys.length) (huc : ∀ c (hc : c < ys.length) (hc' : c < us.length), (us[c]).oneCell' = true ∧ CR w Fr ys[c] us[c]) {b' : Nat} (hb' : v'.ownBlock = some b') (hbb : b' = b ∨ Fr b' = 0) :
    OwnR w' Fr b' f e sz (xs ++ ys) v' := by
  obtain ⟨n', vs', ho, hob, hz, hl, hc, h1, h2⟩ := hO
  have hvs : vs = vs' := by
    rcases ho.2 with ⟨rfl, _⟩ | ⟨g, cap, cur, rfl, _, hg, hnc, _, _, ht⟩
    · simp [Value.ownBlock] at hob
    · rcases hown.2 with ⟨h0, _⟩ | ⟨g2, cap2, cur2, h0, _, hg2, _, _, _, ht2⟩
      · cases h0
      · injection h0 with e1 e2 e3; injection e1 with e1; injection e1 with e1
        subst e1
        rw [hg] at hg2; injection hg2 with hg2; injection hg2 with hg2; subst hg2
        rw [← ht, ← ht2, e2]
  subst hvs
  refine ⟨_, vs ++ us, hv', hb', hz, by rw [List.length_append, List.length_append, hl, hul], fun i hi hi' => ?_, ?_, fun hf => ?_⟩
  · by_cases hlt : i < xs.length
    · rw [List.getElem_append_left hlt, List.getElem_append_left (by omega)]
      exact ⟨(hc i hlt (by omega)).1, (hc i hlt (by omega)).2.ext hx⟩
    · rw [List.getElem_append_right (by omega), List.getElem_append_right (by omega)]
      simp only [List.length_append] at hi hi'
      have hk := huc (i - xs.length) (by omega) (by omega)
      simp only [hl]
      exact ⟨hk.1, hk.2.ext hx⟩
  · rcases hbb with rfl | h0
    · rw [List.length_append]; omega
    · rw [h0]; omega
  · rcases hbb with rfl | h0
    · exact h2 hf
    · exact h0

end Go.Proofs.YticoldgiebmmgaaGreatDoor.Abs

/- Appends. -/
namespace Go.Proofs.YticoldgiebmmgaaGreatDoor.Abs
set_option linter.all false
set_option linter.unusedVariables false

variable {P : Program} {w w' : World} {G G' : Gh} {a : Act} {o : Oper}
variable {w0 : World} {F0 : FT} {A : Nat → Prop} {n : Nat} {st : St} {β : Type} {t u ty : TypeId} {yv : Value}

structure AppR (w : World) (e sz : Nat) (v : Value) (m : Nat) (vs us : List Value) (v' : Value) (w' : World) (k : Nat) : Prop where
  row : w'.ownsRow 0 e sz v' (m + k) (vs ++ us)
  grown : w.grownBy w' v.ownBlock
  block : ∀ b, v'.ownBlock = some b → v.ownBlock = some b ∨ w.heap.size ≤ b
  isnil : v' = .slice none 0 0 ↔ v = .slice none 0 0 ∧ k = 0
  old : ∀ b, v.ownBlock = some b → v'.ownBlock ≠ some b → b < w.heap.size → w'.heap[b]? = w.heap[b]?

theorem ownBlock_of_row {e sz m : Nat} {v : Value} {vs : List Value} (h : w.ownsRow 0 e sz v m vs) (hn : v ≠ .slice none 0 0) : ∃ b, v.ownBlock = some b := by
  rcases h.2 with ⟨rfl, _⟩ | ⟨g, cap, cur, rfl, _⟩
  · exact absurd rfl hn
  · exact ⟨g, rfl⟩

theorem run_app_slice {t e sz by' : Nat} {ty : TypeId} (ht : telem P t = some (e, sz, by')) {v : Value} {m : Nat} {vs : List Value} (hown : w.ownsRow 0 e sz v m vs)
    {ad : Addr} {k c : Nat} {us : List Value} (hl : us.length = k * sz) (hus : ∀ j u, us[j]? = some u → w.cell? (ad.add j) = some u) (h1 : ∀ u ∈ us, u.oneCell' = true)
    (h63 : m + k ≤ maxLen) (hb : (m + k) * by' ≤ 140737488355328) :
    ∃ v' w', (Builtin.append_ #[t, t] ty #[v, .slice (some ad) k c]).run P w = .ok v' w' ∧ AppR w e sz v m vs us v' w' k := by
  obtain ⟨hu, i, z, hi, hz, hs, hby, hzs, hpos⟩ := telem_inv ht
  obtain ⟨v', w', hr, h2, h3, h4⟩ := run_append_own (P := P) w 0 t ty e i z sz by' hu hi hz hs hby hzs hpos v m vs hown ad k c us hl hus h1 h63 hb (Nat.zero_le _)
  suffices hh : (∀ b, v'.ownBlock = some b → v.ownBlock = some b ∨ w.heap.size ≤ b) ∧ (∀ b, v.ownBlock = some b → v'.ownBlock ≠ some b → b < w.heap.size → w'.heap[b]? = w.heap[b]?) from
    ⟨v', w', hr, h2, h3, hh.1, h4, hh.2⟩
  rcases hown.2 with ⟨rfl, rfl⟩ | ⟨g, cap, cur, rfl, hbg, hg, hnc, hcm, hcs, htake⟩
  · refine ⟨fun b hb' => ?_, fun b hb' => by simp [Value.ownBlock] at hb'⟩
    right
    have hvs : vs = [] := List.eq_nil_of_length_eq_zero (by simpa using hown.1)
    subst hvs
    obtain ⟨v2, w2, hr2, k2, _, _⟩ := run_append_own (P := P) w w.heap.size t ty e i z sz by' hu hi hz hs hby hzs hpos (.slice none 0 0) 0 [] (World.ownsRow_nil w _ e sz) ad k c us hl hus h1 (by omega) (by simpa using hb) (Nat.le_refl _)
    rw [hr] at hr2; injection hr2 with e1 e2; subst e1; subst e2
    exact (k2.lt b hb').1
  · by_cases hroom : m + k ≤ cap
    · obtain ⟨w2, hr2, _, _⟩ := run_append_fits (P := P) w 0 t ty e i sz hu hi hs g m cap vs hown ad k c us hl hus h1 hroom
      rw [hr] at hr2; injection hr2 with e1 e2; subst e1
      exact ⟨fun b hb' => .inl (by simpa [Value.ownBlock] using hb'), fun b hb' hn => absurd (by simpa [Value.ownBlock] using hb') hn⟩
    · subst hs; subst hby
      have holds : ∀ j u, vs[j]? = some u → w.cell? ((⟨g, 0, none⟩ : Addr).add j) = some u := hown.cells (g := g) rfl
      have hr2 := run_append_grow (P := P) w t ty e i z hu hi hz ⟨g, 0, none⟩ m cap vs hown.1 holds ad k c us hl hus (by omega) (by simp only [maxLen] at h63; omega) (growslice_fits (by omega) hb)
      rw [hr] at hr2; injection hr2 with e1 e2; subst e1; subst e2
      exact ⟨fun b hb' => .inr (by simp [Value.ownBlock] at hb'; omega), fun b _ _ hlt => heap_old w.drew _ b hlt⟩

theorem zeroByte_inv {e : TypeId} (h : zeroByte P e = true) {i : TypeInfo} (hi : P.info? e = some i) : i.zero = some (.int .u8 0) := by
  unfold zeroByte at h
  split at h
  · rename_i hz
    obtain ⟨i', v, hi', hv, hc⟩ := tzero_inv hz
    rw [hi] at hi'; injection hi' with hi'; subst hi'
    rw [hv]; congr 1
    unfold ofConst at hc
    split at hc
    · simp [Option.map_eq_some_iff] at hc
    · unfold ofCell at hc
      split at hc <;> simp at hc
      obtain ⟨rfl, rfl⟩ := hc; rfl
  · cases h

theorem run_app_str {t u e : Nat} {ty : TypeId} (ht : telem P t = some (e, 1, 1)) (hu : tkind P u = some 2) (hzb : zeroByte P e = true) {v : Value} {m : Nat} {vs : List Value} (hown : w.ownsRow 0 e 1 v m vs)
    {s : ByteArray} (h63 : m + s.size ≤ maxLen) (hb : m + s.size ≤ 140737488355328) :
    ∃ v' w', (Builtin.append_ #[t, u] ty #[v, .string s]).run P w = .ok v' w' ∧ AppR w e 1 v m vs (Lib.strCells s) v' w' s.size := by
  obtain ⟨hut, i, z, hi, hz, hs, hby, hzs, hpos⟩ := telem_inv ht
  have hz0 := zeroByte_inv hzb hi
  obtain ⟨v', w', hr, h2, h3, h4⟩ := Lib.run_append_own_string (P := P) (w := w) 0 t u ty e i hut (tkind_2 hu) hi hz0 hs hby v m vs hown s h63 hb (Nat.zero_le _)
  suffices hh : (∀ b, v'.ownBlock = some b → v.ownBlock = some b ∨ w.heap.size ≤ b) ∧ (∀ b, v.ownBlock = some b → v'.ownBlock ≠ some b → b < w.heap.size → w'.heap[b]? = w.heap[b]?) from
    ⟨v', w', hr, h2, h3, hh.1, h4, hh.2⟩
  rcases hown.2 with ⟨rfl, rfl⟩ | ⟨g, cap, cur, rfl, hbg, hg, hnc, hcm, hcs, htake⟩
  · refine ⟨fun b hb' => ?_, fun b hb' => by simp [Value.ownBlock] at hb'⟩
    right
    have hvs : vs = [] := List.eq_nil_of_length_eq_zero (by simpa using hown.1)
    subst hvs
    obtain ⟨v2, w2, hr2, k2, _, _⟩ := Lib.run_append_own_string (P := P) (w := w) w.heap.size t u ty e i hut (tkind_2 hu) hi hz0 hs hby (.slice none 0 0) 0 [] (World.ownsRow_nil w _ e 1) s (by omega) (by omega) (Nat.le_refl _)
    rw [hr] at hr2; injection hr2 with e1 e2; subst e1; subst e2
    exact (k2.lt b hb').1
  · by_cases hroom : m + s.size ≤ cap
    · have hr2 := Lib.run_append_room_string (P := P) (w := w) t u ty e i hut (tkind_2 hu) hi hs g m cap cur hg s hroom (by omega)
      rw [hr] at hr2; injection hr2 with e1 e2; subst e1
      exact ⟨fun b hb' => .inl (by simpa [Value.ownBlock] using hb'), fun b hb' hn => absurd (by simpa [Value.ownBlock] using hb') hn⟩
    · have holds : ∀ j u, vs[j]? = some u → w.cell? ((⟨g, 0, none⟩ : Addr).add j) = some u := hown.cells (g := g) rfl
      have hr2 := Lib.run_append_grow_string (P := P) (w := w) t u ty e i _ hut (tkind_2 hu) hi hz0 ⟨g, 0, none⟩ m cap vs (by rw [hs]; exact hown.1) holds s (by omega) (by simp only [maxLen] at h63; omega) (growslice_fits (by omega) (by rw [hby]; omega))
      rw [hr] at hr2; injection hr2 with e1 e2; subst e1; subst e2
      exact ⟨fun b hb' => .inr (by simp [Value.ownBlock] at hb'; omega), fun b _ _ hlt => heap_old w.drew _ b hlt⟩

theorem run_app_nil {t e sz by' : Nat} {ty : TypeId} (ht : telem P t = some (e, sz, by')) {v : Value} {m : Nat} {vs : List Value} (hown : w.ownsRow 0 e sz v m vs) :
    ∃ v' w', (Builtin.append_ #[t, t] ty #[v, .slice none 0 0]).run P w = .ok v' w' ∧ AppR w e sz v m vs [] v' w' 0 := by
  obtain ⟨hu, i, z, hi, hz, hs, hby, hzs, hpos⟩ := telem_inv ht
  refine ⟨v, w, run_append_owned_none (P := P) w 0 t ty e i sz hu hi v m vs hown, by simpa using hown, ⟨rfl, rfl, rfl, Nat.le_refl _, fun _ _ _ => rfl⟩, fun b hb => .inl hb, by simp, fun b hb hn => absurd hb hn⟩

theorem runs_append {t u : TypeId} {x y : Operand} {args : Array Operand} {ats : Array TypeId} (ho : o.op = .call ⟨.builtin .append, args, ats⟩) (h1 : args.toList = [x, y]) (h2 : ats.toList = [t, u])
    {v' : Value} (hr : (Builtin.append_ #[t, u] o.type #[a.eval x, a.eval y]).run P w = .ok v' w') : Runs P o a w v' w' := by
  obtain rfl := arr2 h1
  obtain rfl := arr2 h2
  simp [Runs, execOp, ho, resolve, invoke, builtin, hr]

theorem app_sound (h : SR w0 F0 A n st a w G) {bv : AV} {v : Value} (hb : TR w G (fun _ => .mid) bv v) {e sz by' : Nat} (hsz : 0 < sz) {ys : List AV} {us : List Value} {k : Nat} (hyl : ys.length = k * sz) (hul : us.length = ys.length)
    (huc : ∀ c (hc : c < ys.length) (hc' : c < us.length), (us[c]).oneCell' = true ∧ CR w G.Fr ys[c] us[c]) {r : AV}
    (hrun : ∀ m vs, w.ownsRow 0 e sz v m vs → m + k ≤ maxLen → (m + k) * by' ≤ tooLong → ∃ v' w', (Builtin.append_ #[t, u] ty #[v, yv]).run P w = .ok v' w' ∧ AppR w e sz v m vs us v' w' k)
    (hr : (match bv with
      | .slice c e' sz' xs => if ((xs.length + ys.length) / sz) * by' ≤ tooLong ∧ (xs.length + ys.length) ≤ tooLong then
          match c with
          | .nil => if ys.length = 0 then some (.slice .nil 0 1 []) else some (.slice (.own true) e sz ys)
          | .own f => if e' = e ∧ sz' = sz then some (.slice (.own f) e sz (xs ++ ys)) else none
          | _ => none
        else none
      | _ => none) = some r) (q : Nat → Pos) (hq : q 0 ≠ .free) :
    ∃ v' w' G', (Builtin.append_ #[t, u] ty #[v, yv]).run P w = .ok v' w' ∧ SR w0 F0 A n st a w' G' ∧ TR w' G' q r v' ∧ Ext w G.Fr w' G'.Fr ∧ (∀ b, G.ω b ≠ .mid → b < w.heap.size → w'.heap[b]? = w.heap[b]? ∧ G'.ω b = G.ω b) ∧ G'.β = G.β := by
  split at hr
  · rename_i c e' sz' xs
    split at hr
    · rename_i hbound
      split at hr
      · -- nil
        obtain ⟨_, _, _, hv, _, hn, _⟩ := TR_slice hb
        obtain ⟨hv', hxs⟩ := hn rfl
        subst hxs
        rw [hv'] at hrun ⊢
        have hkk : ys.length / sz = k := by rw [hyl, Nat.mul_div_cancel _ hsz]
        simp only [List.length_nil, Nat.zero_add] at hbound
        rw [hkk] at hbound
        have hkl : k ≤ ys.length := by rw [hyl]; exact Nat.le_mul_of_pos_right _ hsz
        obtain ⟨v', w', hr', hA⟩ := hrun 0 [] (World.ownsRow_nil w 0 e sz) (by simp only [maxLen, tooLong] at *; omega) (by rw [Nat.zero_add]; exact hbound.1)
        obtain ⟨hS, hE⟩ := h.grown (v := .slice none 0 0) (fun b hb => by simp [Value.ownBlock] at hb) hA.grown (fun b o u hb => by simp [Value.ownBlock] at hb) (fun b hb => by simp [Value.ownBlock] at hb) (fun b cs e hb => by simp [Value.ownBlock] at hb)
        have hkeep : ∀ b, G.ω b ≠ .mid → b < w.heap.size → w'.heap[b]? = w.heap[b]? := fun b _ hlt => hA.grown.block b hlt (by simp [Value.ownBlock])
        by_cases h0 : ys.length = 0
        · rw [if_pos h0] at hr; injection hr with hr; subst hr
          have hk0 : k = 0 := by rw [hyl] at h0; rcases Nat.mul_eq_zero.1 h0 with h | h; { exact h }; { omega }
          have hvn : v' = .slice none 0 0 := hA.isnil.2 ⟨rfl, hk0⟩
          exact ⟨v', w', G, hr', hS, by rw [hvn]; exact TR_of_CR (.nil _ _), hE, fun b hb hlt => ⟨hkeep b hb hlt, rfl⟩, rfl⟩
        · rw [if_neg h0] at hr; injection hr with hr; subst hr
          have hk0 : k ≠ 0 := fun e => h0 (by rw [hyl, e]; simp)
          have hvn : v' ≠ .slice none 0 0 := fun e => hk0 (hA.isnil.1 e).2
          obtain ⟨b', hb'⟩ := ownBlock_of_row hA.row hvn
          have hnew : w.heap.size ≤ b' := by rcases hA.block b' hb' with h' | h'; { simp [Value.ownBlock] at h' }; { exact h' }
          have hfree := h.new_free hnew
          have hlt := (hA.row.lt b' hb').2
          have hS2 := hS.relabel (b := b') (by rw [hfree]; rfl) hlt (.inr (Nat.le_trans h.kept.size hnew)) (q 0)
          refine ⟨v', w', _, hr', hS2, TR_of_TC ⟨b', by simp [upd], 0 + k, us, by simpa using hA.row, hb', hsz, hul, fun i hi hi' => ⟨(huc i hi hi').1, (huc i hi hi').2.ext hE⟩, ?_, fun _ => h.fresh b' hnew⟩ rfl, hE, fun b hb hlt' => ⟨hkeep b hb hlt', ?_⟩, rfl⟩
          · show G.Fr b' ≤ _
            rw [h.fresh b' hnew]; omega
          · show upd G.ω b' (q 0) b = G.ω b
            rw [upd_ne _ _ _ _ (by omega)]
      · -- own
        rename_i f
        split at hr
        · rename_i hee
          obtain ⟨rfl, rfl⟩ := hee
          injection hr with hr; subst hr
          obtain ⟨b, hbω, hO⟩ := TC_of_TR hb rfl
          have hO' := hO
          obtain ⟨m, vs, ho, hob, hz, hl, hc, hf1, hf2⟩ := hO
          have hm : xs.length = m * sz' := by rw [← hl]; exact ho.1
          have hmk : (xs.length + ys.length) / sz' = m + k := by rw [hm, hyl, ← Nat.add_mul, Nat.mul_div_cancel _ hsz]
          rw [hmk] at hbound
          have hle : m + k ≤ xs.length + ys.length := by rw [hm, hyl, ← Nat.add_mul]; exact Nat.le_mul_of_pos_right _ hsz
          obtain ⟨v', w', hr', hA⟩ := hrun m vs ho (by simp only [maxLen, tooLong] at *; omega) hbound.1
          have hnil : v ≠ .slice none 0 0 := fun e => by rw [e] at hob; simp [Value.ownBlock] at hob
          have hvn : v' ≠ .slice none 0 0 := fun e => hnil (hA.isnil.1 e).1
          obtain ⟨b', hb'⟩ := ownBlock_of_row hA.row hvn
          have hbm := h.mine b (by rw [hbω]; simp)
          have hcell : ∀ b2 o2 u2, v.ownBlock = some b2 → o2 < G.Fr b2 → w.cell? ⟨b2, o2, none⟩ = some u2 → w'.cell? ⟨b2, o2, none⟩ = some u2 := by
            intro b2 o2 u2 hb2 ho2 hu2
            rw [hob] at hb2; injection hb2 with hb2; subst hb2
            have ho2' : o2 < vs.length := by omega
            have e1 := ho.cells hob o2 vs[o2] (List.getElem?_eq_getElem ho2')
            have eadd : (⟨b, 0, none⟩ : Addr).add o2 = ⟨b, o2, none⟩ := by unfold Addr.add; split <;> simp_all
            rw [eadd, hu2] at e1; injection e1 with e1
            rcases hA.block b' hb' with h' | h'
            · rw [hob] at h'; injection h' with h'; subst h'
              have e2 := hA.row.cells hb' o2 vs[o2] (by rw [List.getElem?_append_left ho2']; exact List.getElem?_eq_getElem ho2')
              rw [eadd] at e2; rw [e2, e1]
            · -- grown: the old row stands
              have e2 := hA.old b hob (by rw [hb']; intro e; injection e with e; subst e; omega) hbm.1
              unfold World.cell? at hu2 ⊢
              rw [e2]; exact hu2
          have hshp : ∀ b2 cs2 e2, v.ownBlock = some b2 → w.heap[b2]? = some (.cells cs2 e2 (0, 0)) → ∃ cs', w'.heap[b2]? = some (.cells cs' e2 (0, 0)) := by
            intro b2 cs2 e2 hb2 h2
            rw [hob] at hb2; injection hb2 with hb2; subst hb2
            rcases hA.block b' hb' with h' | h'
            · rw [hob] at h'; injection h' with h'; subst h'
              have ee : e2 = e' := by
                rcases ho.2 with ⟨h0, _⟩ | ⟨g, cap, cur, h0, _, hg, _⟩
                · exact absurd h0 hnil
                · rw [h0] at hob; simp only [Value.ownBlock, Option.some.injEq] at hob; subst hob
                  rw [hg] at h2; injection h2 with h2; injection h2 with _ h2; exact h2.symm
              rcases hA.row.2 with ⟨h0, _⟩ | ⟨g, cap, cur, h0, _, hg, _⟩
              · exact absurd h0 hvn
              · rw [h0] at hb'; simp only [Value.ownBlock, Option.some.injEq] at hb'; subst hb'
                exact ⟨cur, by rw [hg, ee]⟩
            · have e2 := hA.old b hob (by rw [hb']; intro e; injection e with e; subst e; omega) hbm.1
              exact ⟨cs2, by rw [e2]; exact h2⟩
          obtain ⟨hS, hE⟩ := h.grown (v := v) (fun b2 hb2 => by rw [hob] at hb2; injection hb2 with hb2; subst hb2; exact ⟨by rw [hbω]; rfl, hbm.2⟩) hA.grown hcell (fun b2 hb2 => by rw [hob] at hb2; injection hb2 with hb2; subst hb2; exact hbm.1) hshp
          have hloose : (G.ω b').loose = true ∧ (A b' ∨ w0.heap.size ≤ b') ∧ (b' = b ∨ G.Fr b' = 0) := by
            rcases hA.block b' hb' with h' | h'
            · rw [hob] at h'; injection h' with h'; subst h'; exact ⟨by rw [hbω]; rfl, hbm.2, .inl rfl⟩
            · exact ⟨by rw [h.new_free h']; rfl, .inr (Nat.le_trans h.kept.size h'), .inr (h.fresh b' h')⟩
          have hS2 := hS.relabel (b := b') hloose.1 (hA.row.lt b' hb').2 hloose.2.1 (q 0)
          have hml : vs.length / sz' = m := by rw [ho.1, Nat.mul_div_cancel _ hsz]
          have hO2 := own_grown hO' hE (by rw [hml]; exact ho) hl (by rw [hml]; exact hA.row) hul huc hb' hloose.2.2
          refine ⟨v', w', _, hr', hS2, TR_of_TC ⟨b', by simp [upd], hO2⟩ rfl, hE, fun b2 hb2 hlt => ⟨hA.grown.block b2 hlt (fun e => hb2 (by rw [hob] at e; injection e with e; subst e; exact hbω)), ?_⟩, rfl⟩
          show upd G.ω b' (q 0) b2 = G.ω b2
          refine upd_ne _ _ _ _ (fun e => ?_)
          subst e
          rcases hA.block b2 hb' with h' | h'
          · rw [hob] at h'; injection h' with h'; subst h'; exact hb2 hbω
          · omega
        · cases hr
      · cases hr
    · cases hr
  · cases hr

end Go.Proofs.YticoldgiebmmgaaGreatDoor.Abs

/- The operations that read what stays and change nothing. -/
namespace Go.Proofs.YticoldgiebmmgaaGreatDoor.Abs
set_option linter.all false
set_option linter.unusedVariables false

variable {P : Program} {sg : FuncId → Nat → Nat} {hs : Nat → Nat} {w w' : World} {G G' : Gh} {a : Act} {o : Oper}
variable {w0 : World} {F0 : FT} {A : Nat → Prop} {n : Nat} {st : St} {β : Type}

structure Stab (bx : K → Option Obj) (G : Gh) (w : World) (bx' : K → Option Obj) (G' : Gh) (w' : World) : Prop where
  ext : Ext w G.Fr w' G'.Fr
  β : ∀ s t, G.β s = some t → G'.β s = some t
  dom : ∀ s, (bx s).isSome = true → (bx' s).isSome = true
  box : ∀ s ob t, bx s = some ob → G.at s = some t → w'.heap[t.b]? = w.heap[t.b]?

theorem Stab.at {bx bx' : K → Option Obj} (h : Stab bx G w bx' G' w') {s : K} {t : Th} (ht : G.at s = some t) : G'.at s = some t := by
  cases s with
  | loc s => exact h.β s t ht
  | obj i => exact h.ext.ids i t ht

theorem Stab.pres {bx bx' : K → Option Obj} (h : Stab bx G w bx' G' w') {w'' : World} (k : Pres bx' G' w' w'') : Pres bx G w w'' :=
  ⟨fun b o v ho hv => k.cell b o v (Nat.lt_of_lt_of_le ho (h.ext.more b)) (h.ext.cell b o v ho hv), fun s ob t hs hg => by
    have := h.dom s (by rw [hs]; rfl)
    cases hb : bx' s with
    | none => rw [hb] at this; cases this
    | some ob' => rw [k.box s ob' t hb (h.at hg), h.box s ob t hs hg]⟩

theorem Stab.trans {bx bx1 bx2 : K → Option Obj} {w1 w2 : World} {G1 G2 : Gh} (h : Stab bx G w bx1 G1 w1) (k : Stab bx1 G1 w1 bx2 G2 w2) : Stab bx G w bx2 G2 w2 :=
  ⟨h.ext.trans k.ext, fun s t ht => k.β s t (h.β s t ht), fun s hs => k.dom s (h.dom s hs), fun s ob t hs hg => by
    have := h.dom s (by rw [hs]; rfl)
    cases hb : bx1 s with
    | none => rw [hb] at this; cases this
    | some ob' => rw [k.box s ob' t hb (h.at hg), h.box s ob t hs hg]⟩

theorem Less.dom {st st' : St} (h : Less st st') (s : K) (hs : (st.at s).isSome = true) : (st'.at s).isSome = true := by
  cases s with
  | loc t => show (st'.b t).isSome = true; rw [h.1]; exact hs
  | obj i => exact h.2.dom i hs

theorem Stab.less {st st' : St} (hx : Ext w G.Fr w G'.Fr) (hβ : G'.β = G.β) (hL : Less st st') : Stab st.at G w st'.at G' w := ⟨hx, fun s t ht => by rw [hβ]; exact ht, hL.dom, fun _ _ _ _ _ => rfl⟩

theorem SR.room (h : SR w0 F0 A n st a w G) (i to : Nat) (hr : roomTo st.h i to = true) : ∃ t, G.Fr.θ i = some t ∧ t.r = true ∧ to ≤ t.N := by
  unfold roomTo at hr
  split at hr
  · rename_i N _ hg
    obtain ⟨t, k1, _, _, k4⟩ := h.heap.box i _ hg
    obtain ⟨_, j2, _, _, ⟨_, j5⟩, _⟩ := k4
    exact ⟨t, k1, j2, by rw [j5 _ rfl]; simpa using hr⟩
  · cases hr

def Done (w0 : World) (F0 : FT) (A : Nat → Prop) (n : Nat) (k : AV → St → T β) (R : β → Prop) (a : Act) (dst : Option Nat) (st : St) (G : Gh) (w : World) (calm : Prop) (v' : Value) (w' : World) : Prop :=
  ∃ v st' G', (k v st').All R ∧ SR w0 F0 A n st' a w' G' ∧ (∀ d, dst = some d → TR w' G' (.slot d) v v') ∧ (calm → Stab st.at G w st'.at G' w')

theorem TR_move {p q : Nat → Pos} {x : AV} {v : Value} (h1 : x.isOwn = false) (h2 : x.several = false) (h : TR w G p x v) (hx : Ext w G.Fr w' G'.Fr) (hβ : G'.β = G.β) : TR w' G' q x v := by
  cases x with
  | tup xs => simp [AV.several] at h2
  | ptr k off => cases k with
    | loc s => obtain ⟨b, hb, e⟩ := h; exact ⟨b, by rw [hβ]; exact hb, e⟩
    | obj i => exact TR_of_CR ((CR_of_TC (TC_of_TR h rfl) rfl).ext hx)
  | skipped => exact h
  | undef => trivial
  | _ => exact TR_of_CR ((CR_of_TC (TC_of_TR h rfl) h1).ext hx)

theorem hdV_isOwn {x : AV} : (hdV x).isOwn = false := by
  cases x with
  | slice c e sz xs => cases c <;> rfl
  | _ => rfl
theorem gvV_isOwn {x : AV} : (gvV x).isOwn = false := by
  cases x with
  | slice c e sz xs => cases c <;> rfl
  | _ => rfl
theorem CR_isOwn {F : FT} {x : AV} {v : Value} (h : CR w F x v) : x.isOwn = false := by cases h <;> rfl
theorem CR_plain {F : FT} {x : AV} {v : Value} (h : CR w F x v) : x.plain = true := by cases h <;> rfl

theorem pin_isOwn (st : St) (t : Nat) : (pin st t).1.isOwn = false := by
  unfold pin; split
  · rfl
  · exact hdV_isOwn
theorem give_isOwn {x : Operand} {ax : AX} (hx : OX x ax) (a : Act) (w : World) (st : St) : (give st ax).1.isOwn = false := by
  cases ax with
  | t t => exact gvV_isOwn
  | u t => exact gvV_isOwn
  | f t =>
    unfold give; simp only; split
    · unfold frz; repeat (first | rfl | split)
    · exact gvV_isOwn
  | m t => exact pin_isOwn st t
  | p t => exact hdV_isOwn
  | c v => obtain ⟨own, hx⟩ := hx; exact CR_isOwn (const_CR (a := a) (w := w) (Fr := ⟨fun _ => 0, fun _ => none⟩) hx)

theorem TR_mkptr {p : Nat → Pos} {s : K} {t : Th} {off : Nat} (h : G.at s = some t) : TR w G p (.ptr s off) (.pointer (some ⟨t.b, off, none⟩)) := by
  cases s with
  | loc s => exact ⟨t, h, rfl⟩
  | obj i => exact TR_of_CR (.ref i off t h)

def slotAt (dst : Option Nat) : Nat → Pos := .slot (dst.getD 0)
theorem slotAt_eq {dst : Option Nat} {d : Nat} (h : dst = some d) : slotAt dst = .slot d := by subst h; rfl

theorem SR.slotTurn (h : SR w0 F0 A n st a w G) (t : Nat) (p : Nat → Pos) {x : AV} (hx : TR w (G.rename t p) (.slot t) x (a.tmps.getD t undef)) :
    SR w0 F0 A n (st.set t x) a w (G.rename t p) := by
  refine ⟨h.size, h.defers, fun u => ?_, fun s cs hs => Gh.rename_box (h.boxes s cs hs), Gh.rename_heap h.heap, h.kept, h.ext, fun b hb => ?_, h.same, h.fresh, h.nob⟩
  · by_cases hu : u = t
    · subst hu; simp only [St.set]; rw [upd_same]; exact hx
    · simp only [St.set]; rw [upd_ne _ _ _ _ hu]; exact (h.slots u).rename hu
  · by_cases hj : ∃ j, G.ω b = .slot t j
    · obtain ⟨j, hj⟩ := hj
      exact h.mine b (by rw [hj]; simp)
    · exact h.mine b (by rw [← Gh.rename_ne G t p b (fun j e => hj ⟨j, e⟩)]; exact hb)

theorem clsLeft_TC {q q' : Pos} {x : AV} {v : Value} (h : TC w G q x v) : TC w G q' (x.cls .left) v := by
  by_cases hown : x.isOwn = true
  · cases x with
    | slice c e sz xs => cases c with
      | own f => obtain ⟨b, _, hO⟩ := h; exact TC_of_CR (hO.hdr e)
      | _ => simp [AV.isOwn] at hown
    | _ => simp [AV.isOwn] at hown
  · have hc := CR_of_TC h (by simpa using hown)
    have : x.cls .left = x := by
      cases x with
      | slice c e sz xs => cases c with
        | own f => simp [AV.isOwn] at hown
        | _ => rfl
      | _ => rfl
    rw [this]; exact TC_of_CR hc

theorem SR.extract (h : SR w0 F0 A n st a w G) {t i : Nat} {v x' : AV} (hr : exV (st.s t) i = some (v, x')) (q : Pos) :
    ∃ G' vs vv, SR w0 F0 A n (st.set t x') a w G' ∧ G'.β = G.β ∧ Ext w G.Fr w G'.Fr ∧ a.tmps.getD t undef = .tuple vs ∧ vs[i]? = some vv ∧ TC w G' q v vv := by
  unfold exV at hr
  split at hr
  · rename_i xs hxs
    simp only [Option.map_eq_some_iff] at hr
    obtain ⟨x, hx, hr⟩ := hr
    injection hr with e1 e2; subst e1; subst e2
    have hs := h.slots t
    rw [hxs] at hs
    obtain ⟨vs, hv, hl, hc⟩ := hs
    have hi : i < xs.length := (List.getElem?_eq_some_iff.1 hx).1
    have hxi : xs[i] = x := (List.getElem?_eq_some_iff.1 hx).2
    have hiv : i < vs.size := by omega
    let p : Nat → Pos := fun j => if j = i + 1 then q else .slot t j
    have hpi : p (i + 1) = q := if_pos rfl
    have hci := hc i hi hiv
    rw [hxi] at hci
    refine ⟨G.rename t p, vs, vs[i], h.slotTurn t p ?_, rfl, Ext.refl _ _, hv, Array.getElem?_eq_getElem hiv, by rw [← hpi]; exact TC.renamed hci⟩
    rw [hv]
    have hsl : i + [x.cls .left].length ≤ xs.length := by simp; omega
    have hlen : (splice xs i [x.cls .left]).length = xs.length := splice_length hsl
    refine ⟨vs, rfl, by rw [hlen]; exact hl, fun j hj hj' => ?_⟩
    have hg := splice_get hsl j
    rw [List.getElem?_eq_getElem hj] at hg
    by_cases hji : j = i
    · subst hji
      rw [if_pos (by simp)] at hg
      simp only [Nat.sub_self, List.getElem?_cons_zero, Option.some.injEq] at hg
      rw [hg]
      exact clsLeft_TC (q := p (j + 1)) (TC.renamed hci)
    · have hj2 : j < xs.length := by omega
      rw [if_neg (by simp; omega), List.getElem?_eq_getElem hj2, Option.some.injEq] at hg
      rw [hg]
      have := TC.renamed (p := p) (hc j hj2 hj')
      have hpj : p (j + 1) = .slot t (j + 1) := if_neg (by omega)
      rw [hpj] at this
      exact this
  · cases hr

theorem ldV_dom {m : Mode} {agg : Bool} {k : Nat} {p v : AV} {st st' : St} (hq : ldV m agg k p st = some (v, st')) (s : K) (hs : (st.at s).isSome = true) : (st'.at s).isSome = true := by
  unfold ldV at hq
  split at hq
  · simp only [Option.bind_eq_some_iff, Option.map_eq_some_iff] at hq
    obtain ⟨ob, hob, q, hq1, hq⟩ := hq
    injection hq with _ hq
    rw [← hq, St.at_setAt hob]
    split
    · rfl
    · exact hs
  · split at hq
    · injection hq with hq; injection hq with _ hq; rw [← hq]; exact hs
    · cases hq
  · injection hq with hq; injection hq with _ hq; rw [← hq]; exact hs
  · simp only [Option.map_eq_some_iff] at hq
    obtain ⟨_, _, hq⟩ := hq
    injection hq with _ hq; rw [← hq]; exact hs
  · cases hq

section
variable (cl : FuncId → List AV → H → T (AV × H))

theorem early_sound (all : List Oper) {x : AOp} (hx : pOp0 P sg hs all o = some x) (he : x.early = true) (h : SR w0 F0 A n st a w G) {k : AV → St → T β} {R : β → Prop} (hr : (opK cl x st k).All R) :
    ∃ v' v st' G', (k v st').All R ∧ SR w0 F0 A n st' a w G' ∧ (∀ d, o.dst = some d → TR w G' (.slot d) v v') ∧ Stab st.at G w st'.at G' w ∧ ∀ w', ((x.pure = true ∧ Pres (fun _ => none) G' w w') ∨ Pres st'.at G' w w') → Runs P o a w' v' w' := by
  have simple : ∀ {v : AV} {v' : Value} {st' : St} {G' : Gh}, (k v st').All R → SR w0 F0 A n st' a w G' → CR w G'.Fr v v' → G'.β = G.β → Ext w G.Fr w G'.Fr → Less st st' →
      (∀ w', ((x.pure = true ∧ Pres (fun _ => none) G' w w') ∨ Pres st'.at G' w w') → Runs P o a w' v' w') →
      ∃ v st' G', (k v st').All R ∧ SR w0 F0 A n st' a w G' ∧ (∀ d, o.dst = some d → TR w G' (.slot d) v v') ∧ Stab st.at G w st'.at G' w ∧ ∀ w', ((x.pure = true ∧ Pres (fun _ => none) G' w w') ∨ Pres st'.at G' w w') → Runs P o a w' v' w' := fun hk hS hC hβ hE hb hR =>
    ⟨_, _, _, hk, hS, fun d _ => TR_of_CR hC, Stab.less hE hβ hb, hR⟩
  unfold pOp0 at hx
  split at hx
  case h_1 y hop =>
    simp only [Option.map_eq_some_iff] at hx
    obtain ⟨ax, hax, rfl⟩ := hx
    obtain ⟨G', h1, h2, h3, h4, h5⟩ := h.copyO (OX.ofm hax) (if hsOf hs o.dst = 5 then .look else modeOf sg all o.dst) (slotAt o.dst)
    refine ⟨_, _, _, G', hr, h1, fun d hd => by rw [← slotAt_eq hd]; exact h2, ?_, fun w' _ => runs_move hop⟩
    exact Stab.less h5 h4 (copy_less _ _ _)
  case h_2 y hop =>
    simp only [Option.map_eq_some_iff] at hx
    obtain ⟨ax, hax, rfl⟩ := hx
    obtain ⟨G', h1, h2, h3, h4, h5⟩ := h.takeX hax (slotAt o.dst) (by simp [slotAt])
    refine ⟨_, _, _, G', hr, h1, fun d hd => by rw [← slotAt_eq hd]; exact h2, ?_, fun w' _ => runs_assign hop⟩
    exact Stab.less h5 h4 (take_less _ (by simpa [AOp.early] using he))
  case h_3 c y z hop =>
    simp only [Option.bind_eq_some_iff, Option.map_eq_some_iff] at hx
    obtain ⟨ac, hc, ay, hy, az, hz, rfl⟩ := hx
    simp only [opK, T.All_on] at hr
    obtain ⟨v, hv, hr⟩ := hr
    obtain ⟨pc, hpc⟩ := h.peekX hc
    obtain ⟨G1, h1, c1, b1, e1, t1⟩ := h.giveX hy
    obtain ⟨G2, h2, c2, b2, e2, t2⟩ := h1.giveX hz
    have hSt : Stab st.at G w (give (give st ay).2 az).2.at G2 w := Stab.less (e1.trans e2) (b2.trans b1) ((give_less _ _).trans (give_less _ _))
    unfold pkV at hv
    split at hv
    · rename_i hcv
      rw [hcv] at hpc
      split at hv
      · cases hv
      · rename_i hs
        injection hv with hv
        rw [← hv] at hr
        refine ⟨_, _, _, G2, hr, h2, fun d hd => TR_move (give_isOwn (OX.of hy) a w st) (by simpa using hs) (t1 (by simpa using hs) (.slot d)) e2 b2, hSt, fun w' _ => ?_⟩
        exact runs_pick hop (b := true) (TR_bool hpc)
    · rename_i hcv
      rw [hcv] at hpc
      split at hv
      · cases hv
      · rename_i hs
        injection hv with hv
        rw [← hv] at hr
        refine ⟨_, _, _, G2, hr, h2, fun d hd => t2 (by simpa using hs) (.slot d), hSt, fun w' _ => ?_⟩
        exact runs_pick hop (b := false) (TR_bool hpc)
    · cases hv
  case h_8 t y hop =>
    simp only [Option.bind_eq_some_iff, Option.map_eq_some_iff] at hx
    obtain ⟨ag, hag, k', hk', ay, hy, rfl⟩ := hx
    simp only [opK, T.All_on] at hr
    obtain ⟨q, hq, hr⟩ := hr
    obtain ⟨p, hp⟩ := h.peekX hy
    obtain ⟨v, b'⟩ := q
    by_cases hgl : ∃ g, ay = .c (.gl g)
    · obtain ⟨g, rfl⟩ := hgl
      obtain ⟨e0, vv, h1, h2⟩ := load_gl h hop hag hk' hp hq
      subst e0
      exact ⟨vv, _, _, G, hr, h, fun d _ => TR_of_CR h1, Stab.less (Ext.refl _ _) rfl (Less.refl _), fun w' hw' => h2 w' (hw'.elim (fun h => h.2) fun h => ⟨h.cell, fun _ _ _ hs => by cases hs⟩)⟩
    obtain ⟨G', vv, h1, h2, h3, h4, h5, h6, _⟩ := load_sound h hop hag hk' hp hq (slotAt o.dst) (by simp [slotAt]) (by simp [slotAt])
    have hst : Stab st.at G w b'.at G' w := by
      exact ⟨h5, fun s t ht => by rw [h4]; exact ht, fun s hs => ldV_dom hq s hs, fun _ _ _ _ _ => rfl⟩
    have hpu : (AOp.load (modeOf sg all o.dst) ag k' ay).pure = false := by
      cases ay with
      | c v => cases v with
        | gl g => exact absurd ⟨g, rfl⟩ hgl
        | _ => rfl
      | _ => rfl
    exact ⟨vv, _, _, G', hr, h1, fun d hd => by rw [← slotAt_eq hd]; exact h2, hst, fun w' hw' => h3 w' (hst.pres (hw'.resolve_left (fun h => by rw [hpu] at h; cases h.1)))⟩
  case h_10 y hop =>
    simp only [Option.map_eq_some_iff] at hx
    obtain ⟨ay, hy, rfl⟩ := hx
    simp only [opK, T.All_on] at hr
    obtain ⟨v, hv, hr⟩ := hr
    obtain ⟨p, hp⟩ := h.peekX hy
    have hnn : v = peek st ay ∧ v.isOwn = false ∧ v.several = false ∧ ((∃ ad, a.eval y = .pointer (some ad)) ∨ ∃ f, a.eval y = .func (.func f) #[] #[]) := by
      unfold nnV at hv
      split at hv
      · rename_i hp0
        injection hv with hv; rw [hp0] at hp
        obtain ⟨b, _, e⟩ := TR_ptr hp
        exact ⟨by rw [hp0, hv], by rw [← hv]; rfl, by rw [← hv]; rfl, .inl ⟨_, e⟩⟩
      · rename_i hp0
        injection hv with hv; rw [hp0] at hp
        obtain ⟨ad, e, _⟩ := TR_eptr hp
        exact ⟨by rw [hp0, hv], by rw [← hv]; rfl, by rw [← hv]; rfl, .inl ⟨_, e⟩⟩
      · rename_i hp0
        injection hv with hv; rw [hp0] at hp
        exact ⟨by rw [hp0, hv], by rw [← hv]; rfl, by rw [← hv]; rfl, .inr ⟨_, TR_fn hp⟩⟩
      · cases hv
    obtain ⟨e1, e2, e3, e4⟩ := hnn
    exact ⟨a.eval y, v, st, G, hr, h, fun d _ => TR_move e2 e3 (e1 ▸ hp) (Ext.refl _ _) rfl, Stab.less (Ext.refl _ _) rfl (Less.refl _), fun w' _ => runs_nilCheck hop rfl e4⟩
  case h_11 op t y z yt hop =>
    simp only [Option.bind_eq_some_iff, Option.map_eq_some_iff] at hx
    obtain ⟨kd, hkd, ay, hy, az, hz, rfl⟩ := hx
    simp only [opK, T.All_on] at hr
    obtain ⟨v, hv, hr⟩ := hr
    obtain ⟨p, hp⟩ := h.peekX hy
    obtain ⟨q, hq⟩ := h.peekX hz
    obtain ⟨v', hC, hR⟩ := runs_bin hop hkd hp hq hv
    exact ⟨v', simple hr h hC rfl (Ext.refl _ _) (Less.refl _) (fun w' _ => hR w')⟩
  case h_12 op t y hop =>
    simp only [Option.map_eq_some_iff] at hx
    obtain ⟨ay, hy, rfl⟩ := hx
    simp only [opK, T.All_on] at hr
    obtain ⟨v, hv, hr⟩ := hr
    obtain ⟨p, hp⟩ := h.peekX hy
    obtain ⟨v', hC, hR⟩ := runs_un hop hp hv
    exact ⟨v', simple hr h hC rfl (Ext.refl _ _) (Less.refl _) (fun w' _ => hR w')⟩
  case h_13 s d y hop =>
    split at hx
    · rename_i hs hd
      simp only [Option.bind_eq_some_iff, Option.map_eq_some_iff] at hx
      obtain ⟨ay, hy, i, hi, rfl⟩ := hx
      simp only [opK, T.All_on] at hr
      obtain ⟨v, hv, hr⟩ := hr
      obtain ⟨p, hp⟩ := h.peekX hy
      obtain ⟨v', hC, hR⟩ := runs_convInt hop hi hs hp hv
      exact ⟨v', simple hr h hC rfl (Ext.refl _ _) (Less.refl _) (fun w' _ => hR w')⟩
    · simp only [Option.bind_eq_some_iff] at hx
      obtain ⟨ay, hy, ⟨e, sz, by'⟩, hte, hx⟩ := hx
      split at hx
      · rename_i hc
        obtain ⟨rfl, hu8⟩ := hc
        injection hx with hx; subst hx
        simp only [opK, T.All_on] at hr
        obtain ⟨v, hv, hr⟩ := hr
        obtain ⟨G1, h1, c1, b1, e1, t1⟩ := h.giveX hy
        have hsev : (give st ay).1.several = false := by
          unfold cvBS at hv
          split at hv
          · rename_i hg; rw [hg]; rfl
          · rename_i hg; rw [hg]; rfl
          · cases hv
        have hkd : tkind P d = some 2 := by assumption
        obtain ⟨v', hC, hR⟩ := runs_convBS hop hte hu8 hkd (t1 hsev (fun _ => .mid)) (give_isOwn (OX.of hy) a w st) h1.heap hv
        exact ⟨v', simple hr h1 hC b1 e1 (give_less _ _) (fun w' hw' => hR w' (hw'.resolve_left (by simp [AOp.pure])))⟩
      · cases hx
    · simp only [Option.bind_eq_some_iff] at hx
      obtain ⟨ay, hy, ⟨e, sz, by'⟩, hte, hx⟩ := hx
      split at hx
      · injection hx with hx; subst hx; simp [AOp.early] at he
      · cases hx
    · rename_i hs hd
      simp only [Option.bind_eq_some_iff, Option.some.injEq] at hx
      obtain ⟨ay, hy, rfl⟩ := hx
      simp only [opK, T.All_on] at hr
      obtain ⟨v, hv, hr⟩ := hr
      obtain ⟨p, hp⟩ := h.peekX hy
      obtain ⟨v', hC, hR⟩ := runs_convSS hop hs hd hp hv
      exact ⟨v', simple hr h hC rfl (Ext.refl _ _) (Less.refl _) (fun w' _ => hR w')⟩
    · cases hx
  case h_14 t y hop =>
    simp only [Option.bind_eq_some_iff] at hx
    obtain ⟨kd, hkd, hx⟩ := hx
    split at hx
    · cases hx
    · rename_i h5
      simp only [Option.map_eq_some_iff] at hx
      obtain ⟨ay, hy, rfl⟩ := hx
      simp only [opK, T.All_on, mkI] at hr
      obtain ⟨v, hv, hr⟩ := hr
      split at hv
      · rename_i hpl
        injection hv with hv; subst hv
        obtain ⟨G1, h1, c1, b1, e1, t1⟩ := h.giveX hy
        have hsev : (give st ay).1.several = false := by cases hg : (give st ay).1 <;> first | rfl | (rw [hg] at hpl; simp [AV.plain] at hpl)
        have hC := CR_of_TC (TC_of_TR (t1 hsev (fun _ => .mid)) hpl) (give_isOwn (OX.of hy) a w st)
        exact ⟨_, simple hr h1 (.iface t _ _ hC) b1 e1 (give_less _ _) (fun w' _ => runs_iface hop hkd h5 rfl w')⟩
      · cases hv
  case h_15 t y lo hi hop =>
    simp only [Option.bind_eq_some_iff] at hx
    obtain ⟨alo, hlo, ahi, hhi, hx⟩ := hx
    split at hx
    · rename_i hk
      simp only [Option.bind_eq_some_iff, Option.some.injEq] at hx
      obtain ⟨ay, hy, rfl⟩ := hx
      simp only [opK, T.All_on] at hr
      obtain ⟨v, hv, hr⟩ := hr
      obtain ⟨p, hp⟩ := h.peekX hy
      obtain ⟨v', hC, hR⟩ := runs_sliceStr hop hk hp (fun v hv => bound_inv h hlo hv) (fun v hv => bound_inv h hhi hv) hv
      exact ⟨v', simple hr h hC rfl (Ext.refl _ _) (Less.refl _) (fun w' _ => hR w')⟩
    · rename_i hk
      simp only [Option.bind_eq_some_iff, Option.map_eq_some_iff] at hx
      obtain ⟨ay, hy, ⟨e, sz, by'⟩, hte, rfl⟩ := hx
      simp only [opK, T.All_on] at hr
      obtain ⟨v, hv, hr⟩ := hr
      obtain ⟨G1, h1, c1, b1, e1, t1⟩ := h.giveO (OX.ofm hy)
      have hsev : (give st ay).1.several = false := by
        unfold slSl at hv
        split at hv
        · rename_i hg _ _; rw [hg]; rfl
        · rename_i hg _ _; rw [hg]; rfl
        · cases hv
      obtain ⟨v', hC, hR⟩ := runs_sliceSl hop hte (t1 hsev (fun _ => .mid)) (give_isOwn (OX.ofm hy) a w st) (fun v hv => bound_inv h hlo hv) (fun v hv => bound_inv h hhi hv) h1.room hv
      exact ⟨v', simple hr h1 hC b1 e1 (give_less _ _) (fun w' _ => hR w')⟩
    · cases hx
  case h_16 t y i hop =>
    simp only [Option.bind_eq_some_iff] at hx
    obtain ⟨⟨off, u⟩, hf, k', hk', hx⟩ := hx
    split at hx
    · cases hx
    · rename_i h0
      simp only [Option.map_eq_some_iff] at hx
      obtain ⟨ay, hy, rfl⟩ := hx
      simp only [opK, T.All_on] at hr
      obtain ⟨v, hv, hr⟩ := hr
      obtain ⟨p, hp⟩ := h.peekX hy
      unfold fdV at hv
      split at hv
      · rename_i s k0 hpk
        injection hv with hv; subst hv
        rw [hpk] at hp
        obtain ⟨b, hb, e⟩ := TR_ptr hp
        refine ⟨.pointer (some ((⟨b.b, k0, none⟩ : Addr).add off)), _, st, G, hr, h, fun d _ => by rw [add_off _ rfl]; exact TR_mkptr hb, Stab.less (Ext.refl _ _) rfl (Less.refl _), fun w' _ => runs_fieldAddr hop hf hk' h0 e w'⟩
      · rename_i ys hpk
        injection hv with hv; subst hv
        rw [hpk] at hp
        obtain ⟨ad, e, hC⟩ := TR_eptr hp
        refine ⟨.pointer (some (ad.add off)), simple hr h ?_ rfl (Ext.refl _ _) (Less.refl _) (fun w' _ => runs_fieldAddr hop hf hk' h0 e w')⟩
        cases hC with
        | eptr _ _ vs hs hpp hcell hone hcr =>
          rw [add_off _ hs]
          refine .eptr _ _ (fun i => vs (off + i)) rfl (fun i hi => ?_) (fun i hi => ?_) (fun i hi => hone _ (by simp at hi; omega)) (fun i hi => ?_)
          · simp only [Nat.add_assoc]; exact hpp (off + i) (by simp at hi; omega)
          · simp only [Nat.add_assoc]; exact hcell (off + i) (by simp at hi; omega)
          · have := hcr (off + i) (by simp at hi; omega)
            simpa using this
      · cases hv
  case h_17 t y i hop =>
    simp only [Option.bind_eq_some_iff, Option.map_eq_some_iff] at hx
    obtain ⟨⟨off, u⟩, hf, ag, hag, k', hk', ay, hy, rfl⟩ := hx
    simp only [opK, T.All_on] at hr
    obtain ⟨v, hv, hr⟩ := hr
    obtain ⟨p, hp⟩ := h.peekX hy
    obtain ⟨v', hC, hR⟩ := runs_field hop hf hag hk' hp hv
    exact ⟨v', simple hr h hC rfl (Ext.refl _ _) (Less.refl _) (fun w' _ => hR w')⟩
  case h_18 t y i hop =>
    simp only [Option.bind_eq_some_iff, Option.map_eq_some_iff] at hx
    obtain ⟨⟨e, sz, by'⟩, hte, ay, hy, ai, hi, rfl⟩ := hx
    simp only [opK, T.All_on] at hr
    obtain ⟨v, hv, hr⟩ := hr
    obtain ⟨q, hq⟩ := h.peekX hi
    obtain ⟨G1, h1, c1, b1, e1, t1⟩ := h.giveO (OX.ofm hy)
    have hsev : (give st ay).1.several = false ∧ (peek st ai).isOwn = false ∧ (peek st ai).several = false := by
      unfold ixV at hv
      split at hv
      · rename_i hg hi; rw [hg, hi]; exact ⟨rfl, rfl, rfl⟩
      · rename_i hg hi; rw [hg, hi]; exact ⟨rfl, rfl, rfl⟩
      · cases hv
    obtain ⟨v', hC, hR⟩ := runs_indexAddr hop hte (t1 hsev.1 (fun _ => .mid)) (TR_move (q := fun _ => .mid) hsev.2.1 hsev.2.2 hq e1 b1) hv
    exact ⟨v', simple hr h1 hC b1 e1 (give_less _ _) (fun w' _ => hR w')⟩
  case h_19 t y i hop =>
    split at hx
    · rename_i hk
      simp only [Option.bind_eq_some_iff, Option.map_eq_some_iff] at hx
      obtain ⟨ay, hy, ai, hi, rfl⟩ := hx
      simp only [opK, T.All_on] at hr
      obtain ⟨v, hv, hr⟩ := hr
      obtain ⟨p, hp⟩ := h.peekX hy
      obtain ⟨q, hq⟩ := h.peekX hi
      obtain ⟨v', hC, hR⟩ := runs_indexStr hop hk hp hq hv
      exact ⟨v', simple hr h hC rfl (Ext.refl _ _) (Less.refl _) (fun w' _ => hR w')⟩
    · cases hx
  case h_20 t i hop =>
    injection hx with hx; subst hx
    simp only [opK, T.All_on] at hr
    obtain ⟨⟨v, x'⟩, hv, hr⟩ := hr
    obtain ⟨G', vs, vv, h1, hβ, hE, hev, hvi, hT⟩ := h.extract hv (slotAt o.dst 0)
    have hpl : ∀ d, o.dst = some d → TR w G' (.slot d) v vv := fun d hd => by
      rw [slotAt_eq hd] at hT
      by_cases hp : v.plain = true
      · exact TR_of_TC hT hp
      · cases v with
        | ptr k off => cases k <;> first | (simp [AV.plain] at hp; done) | exact absurd hT (by intro hh; cases hh)
        | _ => first | (simp [AV.plain] at hp; done) | exact absurd hT (by intro hh; cases hh) | trivial
    exact ⟨vv, v, _, G', hr, h1, hpl, Stab.less hE hβ (Less.refl st), fun w' _ => runs_extract hop hev hvi w'⟩
  case h_21 args ats hop =>
    split at hx
    · rename_i y t ha hta
      simp only [Option.bind_eq_some_iff] at hx
      obtain ⟨kd, hkd, hx⟩ := hx
      split at hx
      · rename_i h2; subst h2
        simp only [Option.map_eq_some_iff] at hx
        obtain ⟨ay, hy, rfl⟩ := hx
        simp only [opK, T.All_on] at hr
        obtain ⟨v, hv, hr⟩ := hr
        obtain ⟨p, hp⟩ := h.peekX hy
        obtain ⟨v', hC, hR⟩ := runs_len (s := true) hop ha hta (by simpa using hkd) hp hv
        exact ⟨v', simple hr h hC rfl (Ext.refl _ _) (Less.refl _) (fun w' _ => hR w')⟩
      · split at hx
        · rename_i h3; subst h3
          simp only [Option.map_eq_some_iff] at hx
          obtain ⟨ay, hy, rfl⟩ := hx
          simp only [opK, T.All_on] at hr
          obtain ⟨v, hv, hr⟩ := hr
          obtain ⟨p, hp⟩ := h.peekX hy
          obtain ⟨v', hC, hR⟩ := runs_len (s := false) hop ha hta (by simpa using hkd) hp hv
          exact ⟨v', simple hr h hC rfl (Ext.refl _ _) (Less.refl _) (fun w' _ => hR w')⟩
        · cases hx
    · cases hx
  case h_4 => simp only [Option.bind_eq_some_iff, Option.map_eq_some_iff] at hx; obtain ⟨_, _, _, _, rfl⟩ := hx; (split at he); { simp [AOp.early] at he }; { split at he <;> simp [AOp.early] at he }
  case h_5 => simp only [Option.bind_eq_some_iff, Option.map_eq_some_iff] at hx; obtain ⟨_, _, _, _, rfl⟩ := hx; split at he <;> simp [AOp.early] at he
  case h_6 =>
    simp only [Option.bind_eq_some_iff] at hx; obtain ⟨_, _, hx⟩ := hx
    split at hx
    · simp only [Option.bind_eq_some_iff, Option.map_eq_some_iff] at hx; obtain ⟨_, _, _, _, rfl⟩ := hx; simp [AOp.early] at he
    · cases hx
  case h_7 =>
    simp only [Option.bind_eq_some_iff] at hx; obtain ⟨⟨_, _, _⟩, _, _, _, hx⟩ := hx
    split at hx
    · simp only [Option.map_eq_some_iff] at hx; obtain ⟨_, _, rfl⟩ := hx; simp [AOp.early] at he
    · cases hx
  case h_9 => simp only [Option.bind_eq_some_iff, Option.map_eq_some_iff] at hx; obtain ⟨_, _, _, _, _, _, rfl⟩ := hx; simp [AOp.early] at he
  case h_22 =>
    split at hx
    · simp only [Option.bind_eq_some_iff] at hx; obtain ⟨⟨_, _, _⟩, _, _, _, _, _, hx⟩ := hx
      split at hx
      · injection hx with hx; subst hx; simp [AOp.early] at he
      · split at hx
        · injection hx with hx; subst hx; simp [AOp.early] at he
        · cases hx
    · cases hx
  case h_23 =>
    simp only [Option.bind_eq_some_iff] at hx; obtain ⟨_, _, hx⟩ := hx
    split at hx
    · simp only [Option.map_eq_some_iff] at hx; obtain ⟨_, _, rfl⟩ := hx; simp [AOp.early] at he
    · cases hx
  case h_24 => simp only [Option.map_eq_some_iff] at hx; obtain ⟨_, _, rfl⟩ := hx; simp [AOp.early] at he
  case h_25 =>
    simp only [Option.bind_eq_some_iff] at hx; obtain ⟨⟨_, _, _⟩, _, _, _, hx⟩ := hx
    split at hx
    · simp only [Option.bind_eq_some_iff, Option.map_eq_some_iff] at hx; obtain ⟨_, _, _, _, rfl⟩ := hx; simp [AOp.early] at he
    · cases hx
  case h_26 =>
    split at hx
    · simp only [Option.bind_eq_some_iff] at hx; obtain ⟨⟨_, _, _⟩, _, _, _, _, _, hx⟩ := hx
      split at hx
      · injection hx with hx; subst hx; simp [AOp.early] at he
      · split at hx
        · injection hx with hx; subst hx; simp [AOp.early] at he
        · cases hx
    · cases hx
  case h_27 => simp only [Option.map_eq_some_iff] at hx; obtain ⟨_, _, rfl⟩ := hx; split at he <;> simp [AOp.early] at he
  case h_28 => cases hx
end

end Go.Proofs.YticoldgiebmmgaaGreatDoor.Abs

/- The operations that make memory, write it, or call; every operation at once. -/
namespace Go.Proofs.YticoldgiebmmgaaGreatDoor.Abs
set_option linter.all false
set_option linter.unusedVariables false

variable {P : Program} {sg : FuncId → Nat → Nat} {hs : Nat → Nat} {w w' : World} {G G' : Gh} {a : Act} {o : Oper}
variable {w0 : World} {F0 : FT} {A : Nat → Prop} {n : Nat} {st : St} {β : Type}

theorem TC.pos {F : FT} {β1 β2 : Nat → Option Th} {ω1 ω2 : Nat → Pos} {p q : Pos} (hp : ∀ b, ω1 b = p → ω2 b = q) {x : AV} {v : Value} (h : TC w ⟨F, β1, ω1⟩ p x v) : TC w ⟨F, β2, ω2⟩ q x v := by
  by_cases hown : x.isOwn = true
  · cases x with
    | slice c e sz xs => cases c with
      | own f => obtain ⟨b, hb, hO⟩ := h; exact ⟨b, hp b hb, hO⟩
      | _ => simp [AV.isOwn] at hown
    | _ => simp [AV.isOwn] at hown
  · exact TC_of_CR (CR_of_TC (G := ⟨F, β1, ω1⟩) h (by simpa using hown))

theorem TR.pos {F : FT} {β2 : Nat → Option Th} {ω1 ω2 : Nat → Pos} {p q : Nat → Pos} (hp : ∀ j b, ω1 b = p j → ω2 b = q j) {x : AV} {v : Value} (h : TR w ⟨F, fun _ => none, ω1⟩ p x v) : TR w ⟨F, β2, ω2⟩ q x v := by
  cases x with
  | tup xs => obtain ⟨vs, e, hl, hc⟩ := h; exact ⟨vs, e, hl, fun j h h' => (hc j h h').pos (hp (j + 1))⟩
  | ptr k off => cases k with
    | loc s => obtain ⟨b, hb, e⟩ := h; cases hb
    | obj i => exact TR_of_CR (CR_of_TC (G := ⟨F, fun _ => none, ω1⟩) (TC_of_TR (G := ⟨F, fun _ => none, ω1⟩) h rfl) rfl)
  | skipped => exact h
  | undef => trivial
  | slice c e sz xs => exact TC.pos (p := p 0) (q := q 0) (hp 0) (TC_of_TR (G := ⟨F, fun _ => none, ω1⟩) h rfl)
  | _ => exact TR_of_TC (TC.pos (p := p 0) (q := q 0) (hp 0) (TC_of_TR (G := ⟨F, fun _ => none, ω1⟩) h rfl)) rfl

/-! ### Calls -/

def Pos.out : Pos → Bool
  | .arg _ => true
  | .box (.obj _) => true
  | .cell (.obj _) _ => true
  | _ => false
def outOwn (ω : Nat → Pos) (b : Nat) : Prop := (ω b).out = true

def CallPost (w : World) (F : FT) (D : Nat → Prop) (r : AV × H) : Ending → World → Prop := fun e w' =>
  ∃ v F' ω', e = .returned v ∧ Kp w D w' ∧ Ext w F w' F' ∧ (∀ b, b < w.heap.size → ¬ D b → F' b = F b) ∧ (∀ b, w'.heap.size ≤ b → F' b = 0) ∧ TR w' ⟨F', fun _ => none, ω'⟩ .arg r.1 v ∧
    HR w' ⟨F', fun _ => none, ω'⟩ r.2 ∧ ∀ b, outOwn ω' b → b < w'.heap.size ∧ (D b ∨ w.heap.size ≤ b)

def CallOk (P : Program) (cl : FuncId → List AV → H → T (AV × H)) : Prop :=
  ∀ f vs h R, (cl f vs h).All R → ∀ (w : World) (G : Gh) (args : Array Value), args.size = vs.length →
    (∀ i (h : i < vs.length) (h' : i < args.size), TC w G (.arg i) vs[i] args[i] ∧ vs[i].plain = true) → HR w G h → (∀ b, outOwn G.ω b → b < w.heap.size) → (∀ b, w.heap.size ≤ b → G.Fr b = 0) →
    (∃ v w' r, (callFunc f args).run P w = .ok (.value v) w' ∧ R r ∧ CallPost w G.Fr (outOwn G.ω) r (.returned v) w') ∨
      ∃ g, (callFunc f args).run P w = .ok (.enter g args) w ∧ Calls P g args w (fun e w' => ∃ r, R r ∧ CallPost w G.Fr (outOwn G.ω) r e w')

theorem args_sound {f : FuncId} : ∀ {l : List Operand} {ts : List TypeId} {i : Nat} {ps : List (AX × Bool)} {st : St} {G : Gh} {k : List AV → St → T β} {R : β → Prop},
    pArgs P sg f i l ts = some ps → (argsK ps st k).All R → SR w0 F0 A n st a w G →
    ∃ vs st' G', (k vs st').All R ∧ SR w0 F0 A n st' a w G' ∧ vs.length = l.length ∧ (∀ j (h : j < vs.length) (h' : j < l.length), TC w G' (.arg (i + j)) vs[j] (a.eval l[j]) ∧ vs[j].plain = true) ∧
      Carry w G w G' ∧ G'.β = G.β ∧ Ext w G.Fr w G'.Fr ∧ st'.b = st.b ∧ ((∀ q ∈ ps, q.1.isU = false) → Less st st')
  | [], ts, i, ps, st, G, k, r, hp, hk, h => by
    simp only [pArgs, Option.some.injEq] at hp; subst hp
    exact ⟨[], st, G, hk, h, rfl, fun j hj => absurd hj (by simp), Carry.refl _ _, rfl, Ext.refl _ _, rfl, fun _ => Less.refl _⟩
  | x :: l, ts, i, ps, st, G, k, r, hp, hk, h => by
    simp only [pArgs, Option.bind_eq_some_iff, Option.map_eq_some_iff] at hp
    obtain ⟨ax, hax, l', hl', rfl⟩ := hp
    cases hs : (sg f i % 2 == 1) with
    | true =>
      rw [hs] at hk
      simp only [argsK, T.All_on, pln] at hk
      obtain ⟨u, hu, hk⟩ := hk
      split at hu
      · rename_i hpl
        obtain ⟨G1, g1, g2, g3, g4, g5⟩ := h.takeO (OX.ofm hax) (fun _ => .arg i) (by simp)
        obtain ⟨vs, st', G', e1, e2, e3, e4, e5, e6, e7, e8, e9⟩ := args_sound hl' hk g1
        refine ⟨_, st', G', e1, e2, by simp [e3], fun j hj hj' => ?_, g3.trans e5, e6.trans g4, g5.trans e7, e8.trans (take_b _ _), fun hu => (take_less _ (hu _ List.mem_cons_self)).trans (e9 fun q hq => hu q (List.mem_cons_of_mem _ hq))⟩
        cases j with
        | zero => exact ⟨e5 _ _ _ (fun t i e => by cases e) (fun k e => by cases e) (TC_of_TR g2 hpl), hpl⟩
        | succ j => have := e4 j (by simpa using hj) (by simpa using hj'); rw [Nat.add_assoc, Nat.add_comm 1 j] at this; exact this
      · cases hu
    | false =>
      rw [hs] at hk
      simp only [argsK, T.All_on, pln] at hk
      obtain ⟨u, hu, hk⟩ := hk
      split at hu
      · rename_i hpl
        obtain ⟨G1, g1, g2, g3, g4, g5⟩ := h.giveO (OX.ofm hax)
        have hsev : (give st ax).1.several = false := by cases hg : (give st ax).1 <;> first | rfl | (rw [hg] at hpl; simp [AV.plain] at hpl)
        obtain ⟨vs, st', G', e1, e2, e3, e4, e5, e6, e7, e8, e9⟩ := args_sound hl' hk g1
        refine ⟨_, st', G', e1, e2, by simp [e3], fun j hj hj' => ?_, g2.trans e5, e6.trans g3, g4.trans e7, e8.trans (give_b _ _), fun hu => (give_less _ _).trans (e9 fun q hq => hu q (List.mem_cons_of_mem _ hq))⟩
        cases j with
        | zero => exact ⟨e5 _ _ _ (fun t i e => by cases e) (fun k e => by cases e) (TC_of_TR (g5 hsev (fun _ => .arg i)) hpl), hpl⟩
        | succ j => have := e4 j (by simpa using hj) (by simpa using hj'); rw [Nat.add_assoc, Nat.add_comm 1 j] at this; exact this
      · cases hu

def Gh.bare (G : Gh) : Gh := ⟨G.Fr, G.β, fun b => match G.ω b with | .arg i => .arg i | _ => .free⟩
theorem Gh.bare_arg {G : Gh} {b i : Nat} : G.bare.ω b = .arg i ↔ G.ω b = .arg i := by
  simp only [Gh.bare]
  split
  · rename_i j hj; rw [hj]
  · rename_i hne; simp; exact fun e => hne i e
theorem Gh.bare_out {G : Gh} {b : Nat} : outOwn G.bare.ω b ↔ ∃ i, G.ω b = .arg i := by
  simp only [outOwn, Gh.bare]
  split
  · rename_i j hj; simp [Pos.out, hj]
  · rename_i hne; simp [Pos.out]; exact fun i e => hne i e
theorem TC.bare {i : Nat} {x : AV} {v : Value} (h : TC w G (.arg i) x v) : TC w G.bare (.arg i) x v :=
  TC.pos (β1 := G.β) (β2 := G.β) (ω1 := G.ω) (fun b hb => Gh.bare_arg.2 hb) h
theorem HR.mask {h : H} (hh : HR w G h) : HR w G.bare h.mask :=
  ⟨fun i ob hi => absurd hi (by
    have : h.mask.get i = none := by simp [H.mask, H.get, Option.join]
    rw [this]; simp), fun i hi => hh.ids i (by simpa [H.mask, H.n] using hi), hh.glob⟩

theorem SR.called (h : SR w0 F0 A n st a w G) {r : AV × H} {e : Ending} (hp : CallPost w G.Fr (outOwn G.ω) r e w') (dst : Option Nat) :
    ∃ v G', e = .returned v ∧ SR w0 F0 A n ⟨st.s, st.b, r.2⟩ a w' G' ∧ TR w' G' (slotAt dst) r.1 v := by
  obtain ⟨v, F', ω', he, hk, hx, hF, hF', hT, hH, hω⟩ := hp
  have hDf : ∀ b, outOwn G.ω b → G.ω b ≠ .free := fun b hb e => by unfold outOwn at hb; rw [e] at hb; cases hb
  have hDA : ∀ b, outOwn G.ω b → b < w.heap.size ∧ (A b ∨ w0.heap.size ≤ b) := fun b hb => h.mine b (hDf b hb)
  let ω2 : Nat → Pos := fun b => match ω' b with | .arg j => slotAt dst j | .box (.obj i) => .box (.obj i) | .cell (.obj i) c => .cell (.obj i) c | _ => if (G.ω b).out then .free else G.ω b
  have hkeep : ∀ (p : Pos), p.out = false → p ≠ .free → ∀ b, G.ω b = p → b < w.heap.size → w'.heap[b]? = w.heap[b]? ∧ F' b = G.Fr b ∧ ω2 b = p := by
    intro p hp hpf b hb hlt
    have hnD : ¬ outOwn G.ω b := fun hd => by unfold outOwn at hd; rw [hb, hp] at hd; cases hd
    have hnO : ¬ outOwn ω' b := fun ho => by rcases (hω b ho).2 with h' | h'; { exact hnD h' }; { omega }
    refine ⟨hk.block b hlt hnD, hF b hlt hnD, ?_⟩
    simp only [ω2]
    split
    · rename_i hj; exact absurd (by unfold outOwn; rw [hj]; rfl) hnO
    · rename_i hj; exact absurd (by unfold outOwn; rw [hj]; rfl) hnO
    · rename_i hj; exact absurd (by unfold outOwn; rw [hj]; rfl) hnO
    · rw [hb, hp]; rfl
  refine ⟨v, ⟨F', G.β, ω2⟩, he, ⟨h.size, h.defers, fun t => (h.slots t).keeps hx (fun _ _ _ => rfl) (fun j => hkeep _ rfl (by simp)), fun s ob hs => ?_, ?_, ?_, h.ext.trans hx, fun b hb => ?_, fun b hb hA => ?_, hF', h.nob⟩, hT.pos (fun j b hj => by simp only [ω2, hj])⟩
  · exact (h.boxes s ob hs).keeps hx (fun _ h => h) (fun p hp => hkeep p (by rcases hp with rfl | ⟨_, rfl⟩ <;> rfl) (by rcases hp with rfl | ⟨_, rfl⟩ <;> simp))
  · refine ⟨fun i ob hi => BoxR.keeps (G := ⟨F', fun _ => none, ω'⟩) (G' := ⟨F', G.β, ω2⟩) (Ext.refl _ _) (fun t ht => ht) (fun p hp b hb _ => ⟨rfl, rfl, ?_⟩) (hH.box i ob hi), hH.ids, hH.glob⟩
    have hb' : ω' b = p := hb
    rcases hp with rfl | ⟨c, rfl⟩ <;> simp only [ω2, hb']
  · exact h.kept.trans hk (fun b hb hd => by rcases (hDA b hd).2 with h' | h'; { exact h' }; { omega })
  · have key : outOwn ω' b → b < w'.heap.size ∧ (A b ∨ w0.heap.size ≤ b) := fun ho => by
      obtain ⟨h1, h2⟩ := hω b ho
      exact ⟨h1, h2.elim (fun hd => (hDA b hd).2) (fun hd => .inr (Nat.le_trans h.kept.size hd))⟩
    simp only [ω2] at hb
    split at hb
    · rename_i hj; exact key (by unfold outOwn; rw [hj]; rfl)
    · rename_i hj; exact key (by unfold outOwn; rw [hj]; rfl)
    · rename_i hj; exact key (by unfold outOwn; rw [hj]; rfl)
    · split at hb
      · exact absurd rfl hb
      · obtain ⟨h1, h2⟩ := h.mine b hb
        exact ⟨Nat.lt_of_lt_of_le h1 hk.size, h2⟩
  · have hnD : ¬ outOwn G.ω b := fun hd => by rcases (hDA b hd).2 with h' | h'; { exact hA h' }; { omega }
    exact (hF b (Nat.lt_of_lt_of_le hb h.kept.size) hnD).trans (h.same b hb hA)

/-! ### What a call made on the heap is dropped -/
def FT.cut (F : FT) (b : Nat) : FT := ⟨F.f, fun i => if i < b then F.θ i else none⟩

theorem oldL_get {b : Nat} : ∀ {xs : List AV}, oldL b xs = true → ∀ i (h : i < xs.length), xs[i].old b = true
  | x :: xs, h, 0, _ => by simp only [oldL, Bool.and_eq_true] at h; exact h.1
  | x :: xs, h, i + 1, hi => by simp only [oldL, Bool.and_eq_true] at h; exact oldL_get h.2 i (by simpa using hi)

theorem CR.cut {w : World} {F : FT} {b : Nat} {x : AV} {v : Value} (h : CR w F x v) : x.old b = true → CR w (F.cut b) x v := by
  induction h with
  | bool b => intro _; exact .bool b
  | int k n => intro _; exact .int k n
  | str s l h => intro _; exact .str s l h
  | flt k n => intro _; exact .flt k n
  | nil e sz => intro _; exact .nil e sz
  | frz e sz n cap a xs vs hs hz hl hc hp hv ho hr ih =>
    intro h; simp only [AV.old] at h
    exact .frz e sz n cap a xs vs hs hz hl hc hp hv ho (fun i hi => ih i hi (oldL_get h i hi))
  | hdr e sz n cap a xs hz hl hc => intro _; exact .hdr e sz n cap a xs hz hl hc
  | agg xs vs hl ho hr ih => intro h; simp only [AV.old] at h; exact .agg xs vs hl ho (fun i hi hi' => ih i hi hi' (oldL_get h i hi))
  | eptr a xs vs hs hp hv ho hr ih => intro h; simp only [AV.old] at h; exact .eptr a xs vs hs hp hv ho (fun i hi => ih i hi (oldL_get h i hi))
  | nilptr => intro _; exact .nilptr
  | iface t x v hr ih => intro h; simp only [AV.old] at h; exact .iface t x v (ih h)
  | nilI => intro _; exact .nilI
  | fn f => intro _; exact .fn f
  | gl g => intro _; exact .gl g
  | nilfn => intro _; exact .nilfn
  | ref i off t ht => intro h; simp only [AV.old, decide_eq_true_eq] at h; exact .ref i off t (by simp only [FT.cut, if_pos h]; exact ht)
  | hsl i k e sz n cap a t ht hz hc ha => intro h; simp only [AV.old, decide_eq_true_eq] at h; exact .hsl i k e sz n cap a t (by simp only [FT.cut, if_pos h]; exact ht) hz hc ha
  | sen b off cs e hp hh => intro _; exact .sen b off cs e hp hh

theorem TC.cut {F : FT} {β ω} {b : Nat} {p : Pos} {x : AV} {v : Value} (h : TC w ⟨F, β, ω⟩ p x v) (ho : x.old b = true) : TC w ⟨F.cut b, β, ω⟩ p x v := by
  by_cases hown : x.isOwn = true
  · cases x with
    | slice c e sz xs => cases c with
      | own f =>
        obtain ⟨bb, hb, n, vs, h1, h2, h3, h4, h5, h6, h7⟩ := h
        simp only [AV.old] at ho
        exact ⟨bb, hb, n, vs, h1, h2, h3, h4, fun i hi hi' => ⟨(h5 i hi hi').1, (h5 i hi hi').2.cut (oldL_get ho i hi)⟩, h6, h7⟩
      | _ => simp [AV.isOwn] at hown
    | _ => simp [AV.isOwn] at hown
  · exact TC_of_CR ((CR_of_TC (G := ⟨F, β, ω⟩) h (by simpa using hown)).cut ho)

theorem TR.cut {F : FT} {ω} {b : Nat} {p : Nat → Pos} {x : AV} {v : Value} (h : TR w ⟨F, fun _ => none, ω⟩ p x v) (ho : x.old b = true) : TR w ⟨F.cut b, fun _ => none, ω⟩ p x v := by
  cases x with
  | tup xs =>
    obtain ⟨vs, e, hl, hc⟩ := h
    simp only [AV.old] at ho
    exact ⟨vs, e, hl, fun j h h' => (hc j h h').cut (oldL_get ho j h)⟩
  | ptr k off => cases k with
    | loc s => obtain ⟨b, hb, e⟩ := h; cases hb
    | obj i => exact TR_of_TC ((TC_of_TR (G := ⟨F, fun _ => none, ω⟩) h rfl).cut ho) rfl
  | skipped => exact h
  | undef => trivial
  | slice c e sz xs => exact TR_of_TC ((TC_of_TR (G := ⟨F, fun _ => none, ω⟩) h rfl).cut ho) rfl
  | _ => exact TR_of_TC ((TC_of_TR (G := ⟨F, fun _ => none, ω⟩) h rfl).cut ho) rfl

theorem noHeap_word {F : FT} {ω : Nat → Pos} {n : Nat} {r : AV × H} {u : AV} {p : Nat → Pos} {v : Value} {G : FT} (hG : ∀ i, n ≤ i → G.θ i = none) (hx : Ext w G w' F) (hu : noHeap n r = some u) (hT : TR w' ⟨F, fun _ => none, ω⟩ p r.1 v) (hH : HR w' ⟨F, fun _ => none, ω⟩ r.2) :
    ∃ F2 : FT, F2.f = F.f ∧ Ext w G w' F2 ∧ (∀ i, n ≤ i → F2.θ i = none) ∧ TR w' ⟨F2, fun _ => none, ω⟩ p u v := by
  unfold noHeap at hu
  split at hu
  · rename_i hc
    injection hu with hu; subst hu
    simp only [Bool.or_eq_true, Bool.and_eq_true, beq_iff_eq, List.isEmpty_iff] at hc
    rcases hc with ⟨h1, h2⟩ | hc
    · exact ⟨F, rfl, hx, fun i hi => hH.ids i (by simp only [H.n, h1, h2, List.length_nil]; omega), hT⟩
    · refine ⟨F.cut n, rfl, ⟨hx.more, hx.cell, fun i t ht => ?_, hx.shp⟩, fun i hi => by simp only [FT.cut]; rw [if_neg (by omega)], hT.cut hc⟩
      have : i < n := by
        rcases Nat.lt_or_ge i n with h | h
        · exact h
        · rw [hG i h] at ht; cases ht
      simp only [FT.cut, if_pos this]; exact hx.ids i t ht
  · cases hu

theorem SR.calledP (h : SR w0 F0 A n st a w G) {r : AV × H} {u : AV} {e : Ending} (hu : noHeap st.h.n r = some u) (hp : CallPost w G.Fr (outOwn G.bare.ω) r e w') (dst : Option Nat) :
    ∃ v G', e = .returned v ∧ SR w0 F0 A n st a w' G' ∧ TR w' G' (slotAt dst) u v ∧ Stab st.at G w st.at G' w' := by
  obtain ⟨v, F1, ω', he, hk, hx1, hF1, hF1', hT1, hH, hω⟩ := hp
  obtain ⟨F', hFf, hx, hids, hT⟩ := noHeap_word h.heap.ids hx1 hu hT1 hH
  have hF : ∀ b, b < w.heap.size → ¬ outOwn G.bare.ω b → F' b = G.Fr b := fun b h1 h2 => by rw [show F' b = F1 b from congrFun hFf b]; exact hF1 b h1 h2
  have hF' : ∀ b, w'.heap.size ≤ b → F' b = 0 := fun b h1 => by rw [show F' b = F1 b from congrFun hFf b]; exact hF1' b h1
  · have hDA : ∀ b, outOwn G.bare.ω b → b < w.heap.size ∧ (A b ∨ w0.heap.size ≤ b) := fun b hb => by
      obtain ⟨i, hi⟩ := Gh.bare_out.1 hb
      exact h.mine b (by rw [hi]; simp)
    let ω2 : Nat → Pos := fun b => match ω' b with | .arg j => slotAt dst j | _ => match G.ω b with | .arg _ => .free | p => p
    have hkeep : ∀ (p : Pos), (∀ i, p ≠ .arg i) → p ≠ .free → ∀ b, G.ω b = p → b < w.heap.size → w'.heap[b]? = w.heap[b]? ∧ F' b = G.Fr b ∧ ω2 b = p := by
      intro p hp hpf b hb hlt
      have hnD : ¬ outOwn G.bare.ω b := fun hd => by obtain ⟨i, hi⟩ := Gh.bare_out.1 hd; exact hp i (hb.symm.trans hi)
      have hnO : ¬ outOwn ω' b := fun ho => by rcases (hω b ho).2 with h' | h'; { exact hnD h' }; { omega }
      refine ⟨hk.block b hlt hnD, hF b hlt hnD, ?_⟩
      simp only [ω2]
      split
      · rename_i hj; exact absurd (by unfold outOwn; rw [hj]; rfl) hnO
      · split
        · rename_i hj; exact absurd (hb.symm.trans hj) (hp _)
        · exact hb
    refine ⟨v, ⟨F', G.β, ω2⟩, he, ⟨h.size, h.defers, fun t => (h.slots t).keeps hx (fun _ _ _ => rfl) (fun j => hkeep _ (by simp) (by simp)), fun s ob hs => ?_, ?_, ?_, h.ext.trans hx, fun b hb => ?_, fun b hb hA => ?_, hF', h.nob⟩, hT.pos (fun j b hj => by simp only [ω2, hj]), hx, fun _ _ h => h, fun _ h => h, fun s ob t hs hg => ?_⟩
    · exact (h.boxes s ob hs).keeps hx (fun _ h => h) (fun p hp => hkeep p (by rcases hp with rfl | ⟨_, rfl⟩ <;> simp) (by rcases hp with rfl | ⟨_, rfl⟩ <;> simp))
    · exact h.heap.keeps hx hids (fun i p hp => hkeep p (by rcases hp with rfl | ⟨_, rfl⟩ <;> simp) (by rcases hp with rfl | ⟨_, rfl⟩ <;> simp))
    · exact h.kept.trans hk (fun b hb hd => by rcases (hDA b hd).2 with h' | h'; { exact h' }; { omega })
    · simp only [ω2] at hb
      split at hb
      · rename_i hj
        obtain ⟨h1, h2⟩ := hω b (by unfold outOwn; rw [hj]; rfl)
        exact ⟨h1, h2.elim (fun hd => (hDA b hd).2) (fun hd => .inr (Nat.le_trans h.kept.size hd))⟩
      · split at hb
        · exact absurd rfl hb
        · obtain ⟨h1, h2⟩ := h.mine b hb
          exact ⟨Nat.lt_of_lt_of_le h1 hk.size, h2⟩
    · have hnD : ¬ outOwn G.bare.ω b := fun hd => by rcases (hDA b hd).2 with h' | h'; { exact hA h' }; { omega }
      exact (hF b (Nat.lt_of_lt_of_le hb h.kept.size) hnD).trans (h.same b hb hA)
    · obtain ⟨t', k1, k2, k3, _⟩ := h.at hs
      rw [hg] at k1; injection k1 with k1; subst k1
      exact hk.block t.b k3 (fun hd => by obtain ⟨i, hi⟩ := Gh.bare_out.1 hd; rw [k2] at hi; cases hi)

end Go.Proofs.YticoldgiebmmgaaGreatDoor.Abs

/- The machine's runs of the operations with iterators, made rows and copies. -/
namespace Go.Proofs.YticoldgiebmmgaaGreatDoor.Abs
set_option linter.all false
set_option linter.unusedVariables false

variable {P : Program} {w w' : World} {G G' : Gh} {a : Act} {o : Oper}
variable {w0 : World} {F0 : FT} {A : Nat → Prop} {n : Nat} {st : St} {β : Type}

theorem run_newObj' (o : Go.Obj) (w : World) : (newObj o).run P w = .ok w.heap.size (w.alloc o) := rfl
theorem run_getIter {b : Nat} {s : ByteArray} {pos : Nat} (hb : w.heap[b]? = some (.stringIter s pos)) : (getObj b).run P w = .ok (.stringIter s pos) w := by
  unfold getObj; unfold Sem.run; rw [hb]; rfl
def putObj (w : World) (b : Nat) (o : Go.Obj) : World := { w with heap := w.heap.setIfInBounds b o }
theorem run_setIter {b : Nat} {s : ByteArray} {pos : Nat} (hb : w.heap[b]? = some (.stringIter s pos)) (o : Go.Obj) : (setObj b o).run P w = .ok () (putObj w b o) := by
  unfold setObj; unfold Sem.run; rw [hb]; rfl

theorem runs_range {t : TypeId} {x : Operand} (ho : o.op = .range t x) (hk : tkind P t = some 2) {s : ByteArray} (hx : a.eval x = .string s) :
    Runs P o a w (.pointer (some ⟨w.heap.size, 0, none⟩)) (w.alloc (.stringIter s 0)) := by
  simp only [Runs, execOp, ho, hx, Instr.range, Sem.run_bind, run_underlying (tkind_2 hk), Result.andThen_ok, Sem.run_pure, run_newObj']

theorem runs_next {x : Operand} (ho : o.op = .next x true) {b : Nat} (hx : a.eval x = .pointer (some ⟨b, 0, none⟩)) {s : ByteArray} {pos : Nat} (hb : w.heap[b]? = some (.stringIter s pos)) :
    Runs P o a w (if pos < s.size then .tuple #[.bool true, goInt pos, .int .i32 (Utf8.decode s pos).1] else .tuple #[.bool false])
      (if pos < s.size then putObj w b (.stringIter s (pos + (Utf8.decode s pos).2)) else w) := by
  by_cases hp : pos < s.size
  · simp only [Runs, execOp, ho, hx, Instr.next, Sem.run_bind, run_getIter hb, Result.andThen_ok, if_pos hp, run_setIter hb, Sem.run_pure]
  · simp only [Runs, execOp, ho, hx, Instr.next, Sem.run_bind, run_getIter hb, Result.andThen_ok, if_neg hp, Sem.run_pure]

theorem putObj_other (w : World) {b b' : Nat} (o : Go.Obj) (h : b' ≠ b) : (putObj w b o).heap[b']? = w.heap[b']? := by
  simp only [putObj]; rw [Array.getElem?_setIfInBounds_ne (Ne.symm h)]
theorem putObj_same (w : World) {b : Nat} (o : Go.Obj) (h : b < w.heap.size) : (putObj w b o).heap[b]? = some o := by simp [putObj, h]
theorem putObj_size (w : World) (b : Nat) (o : Go.Obj) : (putObj w b o).heap.size = w.heap.size := by simp [putObj]
theorem kp_putObj {b : Nat} (hk : Kp w0 A w) (hg : A b ∨ w0.heap.size ≤ b) (o : Go.Obj) : Kp w0 A (putObj w b o) :=
  ⟨hk.os, hk.tape, hk.output, by rw [putObj_size]; exact hk.size, fun b' hb hA => by
    rw [putObj_other w o (fun e => by subst e; rcases hg with h | h; { exact hA h }; { omega })]
    exact hk.block b' hb hA⟩
theorem ext_putObj {b : Nat} (h : G.Fr b = 0) (o : Go.Obj) : Ext w G.Fr (putObj w b o) G.Fr :=
  ⟨fun _ => Nat.le_refl _, fun b' o' v ho hv => by
    have hne : b' ≠ b := fun e => by subst e; omega
    rw [← hv]; exact World.cell?_of_block (a := ⟨b', o', none⟩) (putObj_other w o hne), fun _ _ h => h, fun b' vs e h1 h2 => ⟨vs, by
    have hne : b' ≠ b := fun e => by subst e; omega
    rw [putObj_other w o hne]; exact h2⟩⟩

theorem SR.iterSet (h : SR w0 F0 A n st a w G) {s : K} {l : List UInt8} {pos : Nat} (hs : st.at s = some (.iter l pos)) {t : Th} (hg : G.at s = some t) {s' : ByteArray} (hl : s'.data.toList = l) (pos' : Nat) :
    SR w0 F0 A n (st.setAt s (.iter l pos')) a (putObj w t.b (.stringIter s' pos')) G := by
  obtain ⟨t', h1, h2, h3, j1, s1, j2, j3⟩ := h.at hs
  rw [hg] at h1; injection h1 with h1; subst h1
  have hmine := h.mine t.b (by rw [h2]; simp)
  have hx : Ext w G.Fr (putObj w t.b (.stringIter s' pos')) G.Fr := ext_putObj j1 _
  refine h.setBox (G' := G) hs hx rfl rfl (fun p _ hp b hb _ => ⟨putObj_other w _ (fun e => by subst e; exact hp (hb.symm.trans h2)), rfl, hb⟩) ⟨t, hg, h2, by rw [putObj_size]; exact h3, j1, s', putObj_same w _ h3, hl⟩
    (kp_putObj h.kept hmine.2 _) (fun b hb => by rw [putObj_size]; exact h.mine b hb) h.same (fun b hb => h.fresh b (by rw [putObj_size] at hb; exact hb))

theorem decode_list {s : ByteArray} {l : List UInt8} (h : s.data.toList = l) : (⟨l.toArray⟩ : ByteArray) = s := by
  subst h; cases s; simp

theorem next_sound (h : SR w0 F0 A n st a w G) {x : Operand} (ho : o.op = .next x true) {p : Nat → Pos} {pv : AV} (hp : TR w G p pv (a.eval x)) {v : AV} {st' : St} (hr : nextV pv st = some (v, st')) :
    ∃ v' w', Runs P o a w v' w' ∧ SR w0 F0 A n st' a w' G ∧ ∀ d, TR w' G (.slot d) v v' := by
  unfold nextV at hr
  split at hr
  · rename_i k
    simp only [Option.bind_eq_some_iff] at hr
    obtain ⟨ob, hs, hr⟩ := hr
    split at hr
    · rename_i l pos
      injection hr with hr; injection hr with hr1 hr2; subst hr1; subst hr2
      obtain ⟨t, h1, h2, h3, j1, s1, j2, j3⟩ := h.at hs
      obtain ⟨t0, ht0, hpe⟩ := TR_ptr hp
      rw [h1] at ht0; injection ht0 with ht0; subst ht0
      have hrun := runs_next (P := P) ho hpe j2
      have hsz : s1.size = l.length := by rw [size_list, j3]
      unfold iterNext
      rw [decode_list j3]
      by_cases hlt : pos < l.length
      · rw [if_pos (by rw [hsz]; exact hlt), if_pos (by rw [hsz]; exact hlt)] at hrun
        rw [if_pos hlt]
        refine ⟨_, _, hrun, h.iterSet hs h1 j3 _, fun d => ⟨_, rfl, rfl, fun j hj hj' => ?_⟩⟩
        simp only [List.length_cons, List.length_nil] at hj
        have hj3 : j = 0 ∨ j = 1 ∨ j = 2 := by omega
        rcases hj3 with rfl | rfl | rfl
        · exact CR.bool _
        · exact CR.int _ _
        · exact CR.int _ _
      · rw [if_neg (by rw [hsz]; exact hlt), if_neg (by rw [hsz]; exact hlt)] at hrun
        rw [if_neg hlt]
        refine ⟨_, _, hrun, by rw [St.setAt_self hs]; exact h, fun d => ⟨_, rfl, rfl, fun j hj hj' => ?_⟩⟩
        simp only [List.length_cons, List.length_nil] at hj
        obtain rfl : j = 0 := by omega
        exact CR.bool _
    · cases hr
  · cases hr

/-! ### Made rows -/
theorem repCells_prefix {m c : Nat} {z : List AV} (hz : 0 < z.length) (h : m ≤ c) (i : Nat) (hi : i < m * z.length) : (repCells m z)[i]? = (repCells c z)[i]? := by
  rw [(repCells_get (k := m) hz).2 i hi, (repCells_get (k := c) hz).2 i (Nat.lt_of_lt_of_le hi (Nat.mul_le_mul_right _ h))]

theorem made_cells {Fr : FT} {c m sz : Nat} {z : List AV} {zv : Array Value} (h : RowR w Fr z zv) (hl : z.length = sz) (hsz : 0 < sz) (hm : m ≤ c) :
    ∀ i (h1 : i < (repCells m z).length) (h2 : i < (madeCells zv (c * sz)).size), ((madeCells zv (c * sz))[i]).oneCell' = true ∧ CR w Fr (repCells m z)[i] (madeCells zv (c * sz))[i] := by
  intro i h1 h2
  obtain ⟨k1, k2⟩ := zeros_RowR (k := c) h hl hsz
  have hr := (repCells_get (k := c) (z := z) (by omega)).1
  have hrm := (repCells_get (k := m) (z := z) (by omega)).1
  have hi : i < m * z.length := by rw [← hrm]; exact h1
  have hic : i < (repCells c z).length := by rw [hr]; exact Nat.lt_of_lt_of_le hi (Nat.mul_le_mul_right _ hm)
  have e := repCells_prefix (z := z) (by omega) hm i hi
  rw [List.getElem?_eq_getElem h1, List.getElem?_eq_getElem hic] at e
  injection e with e
  rw [e]
  exact k2 i hic h2

theorem mk_sound (h : SR w0 F0 A n st a w G) {t e : TypeId} {sz by' : Nat} {x c : Operand} (ho : o.op = .makeSlice t x c) (ht : telem P t = some (e, sz, by')) {z : AV} (hz : tzero P e = some z) (hzl : z.cells.length = sz)
    {p q : Nat → Pos} {xv cv : AV} (hx : TR w G p xv (a.eval x)) (hc : TR w G q cv (a.eval c)) {obj : Bool} {v : AV} {st' : St} (hr : mkV obj e sz by' z.cells xv cv st = some (v, st')) (qs : Nat → Pos) (hqs : qs 0 ≠ .free) :
    ∃ v' w' G', Runs P o a w v' w' ∧ SR w0 F0 A n st' a w' G' ∧ TR w' G' qs v v' ∧ (obj = false → G'.β = G.β ∧ Ext w G.Fr w' G'.Fr ∧ st' = st ∧ ∃ ob, w' = w.alloc ob) := by
  obtain ⟨hu, i, zv, hi, hiz, his, hib, hzs, hpos⟩ := telem_inv ht
  obtain ⟨i', zv', hi', hiz', hof⟩ := tzero_inv hz
  rw [hi] at hi'; injection hi' with hi'; subst hi'
  rw [hiz] at hiz'; injection hiz' with hiz'; subst hiz'
  have hrow := cells_RowR (ofConst_CR (w := w) (Fr := G.Fr) hof)
  simp only [mkV, Option.map_eq_some_iff] at hr
  obtain ⟨⟨m, cc⟩, hmn, hr⟩ := hr
  unfold mkN at hmn
  split at hmn
  · rename_i k1 mi k2 ci
    split at hmn
    · rename_i hcond
      obtain ⟨rfl, rfl, c1, c2, c3, c4⟩ := hcond
      injection hmn with hmn; injection hmn with hm1 hm2
      have hmc : m ≤ cc := by omega
      have hcm : cc ≤ maxLen := by simp only [maxLen, tooLong] at *; omega
      have hrun : Runs P o a w (.slice (some ⟨w.heap.size, 0, none⟩) m cc) (w.alloc (.cells (madeCells zv.cells (cc * sz)) e)) := by
        have := run_make (P := P) w t e i zv hu hi hiz .i64 .i64 mi ci c1 c2 (by rw [hib]; simp only [tooLong] at c3; omega) (by simp only [tooLong] at c4; omega)
        rw [hm1, hm2, his] at this
        simp only [Runs, execOp, ho, TR_int hx, TR_int hc, Sem.run_bind, this, Result.andThen_ok, Sem.run_pure]
      have hlen : (repCells m z.cells).length = m * sz := by rw [(repCells_get (k := m) (z := z.cells) (by omega)).1, hzl]
      have hms : (madeCells zv.cells (cc * sz)).size = cc * sz := size_madeCells _ _
      have hle : m * sz ≤ cc * sz := Nat.mul_le_mul_right _ hmc
      have hx0 : Ext w G.Fr (w.alloc (.cells (madeCells zv.cells (cc * sz)) e)) G.Fr := ext_of_kp (kp_alloc w _ (fun _ => False)) (fun _ h => h.elim) h.fresh
      have hcells : ∀ i (h1 : i < (repCells m z.cells).length) (h2 : i < (madeCells zv.cells (cc * sz)).size), ((madeCells zv.cells (cc * sz))[i]).oneCell' = true ∧ CR (w.alloc (.cells (madeCells zv.cells (cc * sz)) e)) G.Fr (repCells m z.cells)[i] (madeCells zv.cells (cc * sz))[i] := fun i h1 h2 => by
        have := made_cells hrow hzl hpos hmc i h1 h2
        exact ⟨this.1, this.2.ext hx0⟩
      have hnew : (w.alloc (.cells (madeCells zv.cells (cc * sz)) e)).heap[w.heap.size]? = some (.cells (madeCells zv.cells (cc * sz)) e) := heap_alloc_new w _
      have hfr : G.Fr w.heap.size = 0 := h.fresh _ (Nat.le_refl _)
      cases obj with
      | true =>
        simp only [if_true, Prod.mk.injEq] at hr
        obtain ⟨hr1, hr2⟩ := hr
        subst hr1; subst hr2
        have hlenc : (repCells cc z.cells).length = cc * sz := by rw [(repCells_get (k := cc) (z := z.cells) (by omega)).1, hzl]
        have hcellsc : ∀ i (h1 : i < (repCells cc z.cells).length) (h2 : i < (madeCells zv.cells (cc * sz)).size), ((madeCells zv.cells (cc * sz))[i]).oneCell' = true ∧ CR (w.alloc (.cells (madeCells zv.cells (cc * sz)) e)) G.Fr (repCells cc z.cells)[i] (madeCells zv.cells (cc * sz))[i] := fun i h1 h2 => by
          have := made_cells hrow hzl hpos (Nat.le_refl cc) i h1 h2
          exact ⟨this.1, this.2.ext hx0⟩
        obtain ⟨G', g1, g2, g3, g4⟩ := h.newObj (ob := .row e sz (some (cc * sz)) (repCells cc z.cells)) (.cells (madeCells zv.cells (cc * sz)) e) e (cc * sz) true
          ⟨hfr, rfl, rfl, hpos, ⟨⟨cc, rfl, hcm⟩, fun N hN => by injection hN⟩, by rw [hlenc]; exact Nat.le_refl _, ⟨cc, hlenc⟩, _, hnew, hms, hcellsc⟩
        exact ⟨_, _, G', hrun, g1, TR_of_CR (.hsl _ _ _ _ _ _ _ _ g2 hpos hmc (fun _ => ⟨rfl, fun _ => by simp⟩)), fun h => by cases h⟩
      | false =>
        simp only [Bool.false_eq_true, if_false, Prod.mk.injEq] at hr
        obtain ⟨hr1, hr2⟩ := hr
        subst hr1; subst hr2
        have h1 := h.alloc (.cells (madeCells zv.cells (cc * sz)) e)
        have hfree := h.new_free (Nat.le_refl w.heap.size)
        have h2 := h1.relabel (b := w.heap.size) (by rw [hfree]; rfl) (by simp) (.inr h.kept.size) (qs 0)
        refine ⟨_, _, _, hrun, h2, TR_of_TC ⟨w.heap.size, by simp [upd], m, (madeCells zv.cells (cc * sz)).toList.take (m * sz), ⟨by rw [List.length_take, Array.length_toList, hms]; omega, .inr ⟨w.heap.size, cc, _, rfl, Nat.zero_le _, hnew, hmc, hcm, hms, rfl⟩⟩, by simp [Value.ownBlock], hpos, by rw [List.length_take, Array.length_toList, hms, hlen]; omega, fun i hi hi' => ?_, by simp only; rw [hfr]; omega, fun _ => hfr⟩ rfl, fun _ => ⟨rfl, hx0, rfl, _, rfl⟩⟩
        have hi2 : i < (madeCells zv.cells (cc * sz)).size := by rw [hms]; omega
        have := hcells i hi hi2
        have e1 : ((madeCells zv.cells (cc * sz)).toList.take (m * sz))[i] = (madeCells zv.cells (cc * sz))[i] := by simp
        rw [e1]; exact this
    · cases hmn
  · cases hmn

/-! ### What is appended or copied -/
theorem more_cells {v : Value} {p : Nat → Pos} {sz : Nat} {ys : List AV} {c : Cls} {e sz' : Nat} (hx : TR w G p (.slice c e sz' ys) v) (hc : c ≠ .hdr) (hz : c = .nil ∨ sz' = sz) (hsz : 0 < sz) :
    (v = .slice none 0 0 ∧ ys = []) ∨ ∃ (ad : Addr) (k cap : Nat) (us : List Value), v = .slice (some ad) k cap ∧ ys.length = k * sz ∧ us.length = ys.length ∧ (∀ j u, us[j]? = some u → w.cell? (ad.add j) = some u) ∧ (∀ u ∈ us, u.oneCell' = true) ∧
      ∀ c (hc : c < ys.length) (hc' : c < us.length), (us[c]).oneCell' = true ∧ CR w G.Fr ys[c] us[c] := by
  obtain ⟨o, k, cap, rfl, hk, hn, hnn⟩ := TR_slice hx
  rcases TR_cells hx hc with ⟨h1, rfl, h3, h4⟩ | ⟨ad, vs, rfl, hs, hcell, hone, hcr, hz0, hlen⟩
  · obtain ⟨e1, e2⟩ := hn h1; exact .inl ⟨e1, e2⟩
  · rcases hz with hz | hz
    · obtain ⟨e1, _⟩ := hn hz; cases e1
    · subst hz
      have hul : (List.ofFn fun i : Fin ys.length => vs i).length = ys.length := by simp
      refine .inr ⟨ad, k, cap, List.ofFn fun i : Fin ys.length => vs i, rfl, hlen, hul, fun j u hj => ?_, fun u hu => ?_, fun c hc hc' => ?_⟩
      · obtain ⟨hj', hju⟩ := List.getElem?_eq_some_iff.1 hj
        rw [hul] at hj'
        rw [List.getElem_ofFn] at hju
        rw [add_off ad (hs (by omega)), ← hju]; exact hcell j hj'
      · obtain ⟨i, hi⟩ := List.mem_ofFn.1 hu
        rw [← hi]; exact hone i i.2
      · rw [List.getElem_ofFn]; exact ⟨hone c hc, hcr c hc⟩

theorem more_hsl (h : SR w0 F0 A n st a w G) {v : Value} {p : Nat → Pos} {i k e sz m : Nat} {ys : List AV} (hx : TR w G p (.hsl i k e sz m) v) (hc : hcells st.h i k (m * sz) = some ys) :
    ∃ (ad : Addr) (cap : Nat) (us : List Value), v = .slice (some ad) m cap ∧ ys.length = m * sz ∧ us.length = ys.length ∧ (∀ j u, us[j]? = some u → w.cell? (ad.add j) = some u) ∧ (∀ u ∈ us, u.oneCell' = true) ∧
      ∀ c (hc : c < ys.length) (hc' : c < us.length), (us[c]).oneCell' = true ∧ CR w G.Fr ys[c] us[c] := by
  obtain ⟨ad, cap, vs, hv, hz, hmc, hlen, hs, hcell, hone, hcr⟩ := hcells_sound h.heap hx hc
  have hul : (List.ofFn fun i : Fin ys.length => vs i).length = ys.length := by simp
  refine ⟨ad, cap, List.ofFn fun i : Fin ys.length => vs i, hv, hlen, hul, fun j u hj => ?_, fun u hu => ?_, fun c hc hc' => ?_⟩
  · obtain ⟨hj', hju⟩ := List.getElem?_eq_some_iff.1 hj
    rw [hul] at hj'
    rw [List.getElem_ofFn] at hju
    rw [add_off ad (hs (by omega)), ← hju]; exact hcell j hj' w (Pres.refl _ _ _)
  · obtain ⟨i, hi⟩ := List.mem_ofFn.1 hu
    rw [← hi]; exact hone i i.2
  · rw [List.getElem_ofFn]; exact ⟨hone c hc, hcr c hc⟩

theorem src_sound (h : SR w0 F0 A n st a w G) {v : Value} {p : Nat → Pos} {yv : AV} (hx : TR w G p yv v) {sz : Nat} (hsz : 0 < sz) {str : Bool} (h1 : str = true → sz = 1) {ys : List AV} (hm : moreV st.h sz str yv = some ys) :
    ∃ (L : Nat) (us : List Value), (Builtin.lenOf v).run P w = .ok L w ∧ ys.length = L * sz ∧ us.length = ys.length ∧ (∀ c (hc : c < ys.length) (hc' : c < us.length), (us[c]).oneCell' = true ∧ CR w G.Fr ys[c] us[c]) ∧
      ∀ cnt, cnt ≤ L → (Builtin.firstCells sz cnt v).run P w = .ok (us.take (cnt * sz)).toArray w := by
  have slice : ∀ {ad : Addr} {k cap : Nat} {us : List Value}, v = .slice (some ad) k cap → ys.length = k * sz → us.length = ys.length → (∀ j u, us[j]? = some u → w.cell? (ad.add j) = some u) →
      (∀ c (hc : c < ys.length) (hc' : c < us.length), (us[c]).oneCell' = true ∧ CR w G.Fr ys[c] us[c]) → ∃ (L : Nat) (us : List Value), (Builtin.lenOf v).run P w = .ok L w ∧ ys.length = L * sz ∧ us.length = ys.length ∧ (∀ c (hc : c < ys.length) (hc' : c < us.length), (us[c]).oneCell' = true ∧ CR w G.Fr ys[c] us[c]) ∧
      ∀ cnt, cnt ≤ L → (Builtin.firstCells sz cnt v).run P w = .ok (us.take (cnt * sz)).toArray w := by
    intro ad k cap us e1 e2 e3 e4 e5
    subst e1
    refine ⟨k, us, rfl, e2, e3, e5, fun cnt hcnt => ?_⟩
    have hle : cnt * sz ≤ k * sz := Nat.mul_le_mul_right _ hcnt
    have := run_loadCells_list (P := P) w ad (us.take (cnt * sz)) (fun j u hj => by
      rw [List.getElem?_take] at hj
      split at hj
      · exact e4 j u hj
      · cases hj)
    rw [List.length_take, Nat.min_eq_left (by omega)] at this
    exact this
  unfold moreV at hm
  split at hm
  · rename_i c e sz' ys'
    split at hm
    · rename_i hcond
      injection hm with hm; subst hm
      rcases more_cells hx hcond.2.1 hcond.2.2 hsz with ⟨rfl, e2⟩ | ⟨ad, k, cap, us, e1, e2, e3, e4, e5, e6⟩
      · subst e2
        refine ⟨0, [], rfl, by simp, rfl, fun c hc => absurd hc (by simp), fun cnt hcnt => ?_⟩
        obtain rfl : cnt = 0 := by omega
        simp [Builtin.firstCells]
      · exact slice e1 e2 e3 e4 e6
    · cases hm
  · rename_i i k e sz' m
    split at hm
    · rename_i hcond
      obtain ⟨_, rfl⟩ := hcond
      obtain ⟨ad, cap, us, e1, e2, e3, e4, e5, e6⟩ := more_hsl h hx hm
      exact slice e1 e2 e3 e4 e6
    · cases hm
  · rename_i l
    split at hm
    · rename_i hs
      injection hm with hm; subst hm
      obtain rfl := h1 hs
      obtain ⟨t, rfl, htl⟩ := TR_str hx
      have hsz' : t.size = l.length := by rw [size_list, htl]
      refine ⟨t.size, t.data.toList.map fun b => .int .u8 b.toNat, rfl, by simp [byteCells, hsz'], by simp [byteCells, htl], fun c hc hc' => ?_, fun cnt hcnt => ?_⟩
      · subst htl
        simp [byteCells, Value.oneCell']
        exact .int _ _
      · simp only [Builtin.firstCells, Sem.run_pure, Nat.mul_one]
        congr 1
        apply Array.toList_inj.1
        simp [ByteArray.data_extract]
    · cases hm
  · cases hm

theorem run_copy {dT sT ty elem : TypeId} {sz : Nat} (hu : P.underlying dT = some (.slice elem)) (hs : tsize P elem = some sz) {o : Option Addr} {dLen dCap L cnt : Nat} {src : Value} {us : Array Value}
    (hL : (Builtin.lenOf src).run P w = .ok L w) (hcnt : cnt = min L dLen) (hf : (Builtin.firstCells sz cnt src).run P w = .ok us w)
    (hst : match o with | none => w' = w | some ad => (storeCells ad us.toList).run P w = .ok () w') :
    (Builtin.copy_ #[dT, sT] ty #[.slice o dLen dCap, src]).run P w = .ok (goInt cnt) w' := by
  have hmin : Nat.min L dLen = cnt := hcnt.symm
  cases o with
  | none =>
    simp only at hst; subst hst
    simp [Builtin.copy_, run_underlying hu, hL, run_sizeOf' hs, hmin, hf]
  | some ad =>
    simp only at hst
    simp [Builtin.copy_, run_underlying hu, hL, run_sizeOf' hs, hmin, hf, hst]

theorem splice_nil (xs : List AV) (k : Nat) : splice xs k [] = xs := by simp [splice]

theorem cp_sound (h : SR w0 F0 A n st a w G) {t u e : TypeId} {sz by' : Nat} {x y : Operand} {args : Array Operand} {ats : Array TypeId} (ho : o.op = .call ⟨.builtin .copy, args, ats⟩) (h1 : args.toList = [x, y]) (h2 : ats.toList = [t, u])
    (ht : telem P t = some (e, sz, by')) {p q : Nat → Pos} {dv yv : AV} (hx : TR w G p dv (a.eval x)) (hy : TR w G q yv (a.eval y)) {str : Bool} (hstr : str = true → sz = 1) {v : AV} {st' : St} (hr : cpRow sz str dv yv st = some (v, st')) :
    ∃ v' w', Runs P o a w v' w' ∧ SR w0 F0 A n st' a w' G ∧ CR w' G.Fr v v' := by
  obtain ⟨hu, i0, zv, hi0, _, his, _, _, hpos⟩ := telem_inv ht
  have hsize : tsize P e = some sz := by simp [tsize, hi0, his]
  have fin : ∀ {v' : Value} {w' : World}, (Builtin.copy_ #[t, u] o.type #[a.eval x, a.eval y]).run P w = .ok v' w' → Runs P o a w v' w' := fun hh => by
    obtain rfl := arr2 h1
    obtain rfl := arr2 h2
    simp [Runs, execOp, ho, resolve, invoke, builtin, hh]
  unfold cpRow at hr
  split at hr
  · rename_i i k e' sz' m
    split at hr
    · rename_i hss; subst hss
      simp only [Option.bind_eq_some_iff] at hr
      obtain ⟨ys, hys, hr⟩ := hr
      obtain ⟨cap, ad, th, hat, hv, hz, hmc, ha⟩ := TR_hsl hx
      obtain ⟨L, us, s1, s2, s3, s4, s5⟩ := src_sound (P := P) h hy hpos hstr hys
      have hLd : ys.length / sz' = L := by rw [s2, Nat.mul_div_cancel _ hpos]
      rw [hLd] at hr
      have hcl : min L m ≤ L := Nat.min_le_left _ _
      have hcm : min L m ≤ m := Nat.min_le_right _ _
      generalize hcnt : min L m = cnt at hr hcl hcm
      have hce : cnt * sz' ≤ ys.length := by rw [s2]; exact Nat.mul_le_mul_right _ hcl
      have hcme : cnt * sz' ≤ m * sz' := Nat.mul_le_mul_right _ hcm
      have hul : (us.take (cnt * sz')).toArray.size = (ys.take (cnt * sz')).length := by simp [s3]
      have hyl : (ys.take (cnt * sz')).length = cnt * sz' := by rw [List.length_take]; omega
      have hrel : ∀ c (hc : c < (ys.take (cnt * sz')).length) (hc' : c < (us.take (cnt * sz')).toArray.size), ((us.take (cnt * sz')).toArray[c]).oneCell' = true ∧ CR w G.Fr (ys.take (cnt * sz'))[c] (us.take (cnt * sz')).toArray[c] := fun c hc hc' => by
        have := s4 c (by rw [hyl] at hc; omega) (by rw [s3]; rw [hyl] at hc; omega)
        simpa using this
      have hrun0 : ∀ {w' : World}, (storeCells ad (us.take (cnt * sz'))).run P w = .ok () w' → Runs P o a w (goInt cnt) w' := fun hst => fin (by
        rw [hv]
        exact run_copy (o := some ad) hu hsize s1 hcnt.symm (s5 cnt hcl) (by simpa using hst))
      -- a memory that is written
      have main : ∀ (cur : Array Value) (e1 : Nat) (N : Nat), w.heap[th.b]? = some (.cells cur e1 (0, 0)) → k + m * sz' ≤ cur.size → 0 < cnt * sz' → Runs P o a w (goInt cnt) (w.setRow th.b (arrPut cur (us.take (cnt * sz')).toArray k)) := fun cur e1 _ hg hle hpos' => by
        have hm0 : 0 < m := by
          rcases Nat.eq_zero_or_pos m with h0 | h0
          · subst h0; simp at hcm; subst hcm; simp at hpos'
          · exact h0
        obtain ⟨rfl, _⟩ := ha (.inr hm0)
        have hlen : (us.take (cnt * sz')).length = cnt * sz' := by rw [List.length_take, s3]; omega
        have := run_storeCells_at P th.b k e1 (us.take (cnt * sz')) 0 cur w hg (by rw [hlen]; omega) (fun v hv => by
          obtain ⟨j, hj, rfl⟩ := List.getElem_of_mem hv
          have := (hrel j (by rw [hyl]; omega) (by simpa using hj)).1
          simpa using this)
        refine hrun0 ?_
        simpa [arrPut] using this
      split at hr
      · rename_i e'' sz'' cp xs hget
        split at hr
        · rename_i hle
          injection hr with hr; injection hr with hr1 hr2; subst hr1; subst hr2
          by_cases h0 : cnt * sz' = 0
          · have e1 : ys.take (cnt * sz') = [] := by rw [h0]; rfl
            have e2 : us.take (cnt * sz') = [] := by rw [h0]; rfl
            refine ⟨goInt cnt, w, hrun0 (by rw [e2]; rfl), ?_, .int _ _⟩
            rw [e1, splice_nil]
            have := St.setAt_self (st := st) (s := .obj i) hget
            simp only [St.setAt] at this
            rw [this]; exact h
          · obtain ⟨t', k1, k2, k3, j1, j2, j3, j4, j5, j6, j7, vs, k4, k5, k6⟩ := h.at (s := .obj i) hget
            rw [hat] at k1; injection k1 with k1; subst k1
            have hm0 : 0 < m := by
              rcases Nat.eq_zero_or_pos m with h1 | h1
              · subst h1; exfalso; apply h0; rw [show cnt = 0 by omega]; simp
              · exact h1
            have hcapN := (ha (.inr hm0)).2 j2
            have hmcap : m * sz' ≤ cap * sz' := Nat.mul_le_mul_right _ hmc
            have hlo : k ≤ xs.length := by rcases hle with h1 | h1 <;> omega
            have hmul : ∃ m', (splice xs k (ys.take (cnt * sz'))).length = m' * sz'' := by
              rw [splice_length2 hlo, hyl]
              rcases hle with h1 | ⟨_, h2, h3⟩
              · obtain ⟨q, hq⟩ := j7
                exact ⟨q, by rw [← hq]; omega⟩
              · subst h3
                rcases Nat.le_total xs.length (k + cnt * sz'') with h4 | h4
                · rw [Nat.max_eq_right h4]
                  exact ⟨k / sz'' + cnt, by rw [Nat.add_mul, Nat.div_mul_cancel (Nat.dvd_of_mod_eq_zero h2)]⟩
                · rw [Nat.max_eq_left h4]; exact j7
            refine ⟨goInt cnt, _, main vs th.e 0 k4 (by rw [k5]; omega) (by omega), h.storeRow (s := .obj i) hget hlo hul hrel hat (fun _ => by rw [hyl]; omega) hmul k4, .int _ _⟩
        · cases hr
      · rename_i xs hget
        split at hr
        · rename_i hle
          injection hr with hr; injection hr with hr1 hr2; subst hr1; subst hr2
          by_cases h0 : cnt * sz' = 0
          · have e1 : ys.take (cnt * sz') = [] := by rw [h0]; rfl
            have e2 : us.take (cnt * sz') = [] := by rw [h0]; rfl
            refine ⟨goInt cnt, w, hrun0 (by rw [e2]; rfl), ?_, .int _ _⟩
            rw [e1, splice_nil]
            have := St.setAt_self (st := st) (s := .obj i) hget
            simp only [St.setAt] at this
            rw [this]; exact h
          · obtain ⟨t', k1, k2, k3, j1, j2, vs, k4, k5, k6⟩ := h.at (s := .obj i) hget
            rw [hat] at k1; injection k1 with k1; subst k1
            refine ⟨goInt cnt, _, main vs th.e 0 k4 (by omega) (by omega), h.store (s := .obj i) hget (by rw [hyl]; omega) hul (fun c hc hc' => ⟨(hrel c hc hc').1, TC_of_CR (hrel c hc hc').2⟩) hat k4, .int _ _⟩
        · cases hr
      · cases hr
    · cases hr
  · rename_i e' sz' xs
    rw [Option.map_eq_some_iff] at hr
    obtain ⟨ys, hys, hr⟩ := hr
    injection hr with hr1 hr2; subst hr1; subst hr2
    obtain ⟨_, _, _, hv, _, hn, _⟩ := TR_slice hx
    obtain ⟨hv', _⟩ := hn rfl
    obtain ⟨L, us, s1, s2, s3, s4, s5⟩ := src_sound (P := P) h hy hpos hstr hys
    refine ⟨goInt 0, w, fin ?_, h, .int _ _⟩
    rw [hv']
    exact run_copy (o := none) (cnt := 0) hu hsize s1 (by omega) (s5 0 (Nat.zero_le _)) rfl
  · cases hr

end Go.Proofs.YticoldgiebmmgaaGreatDoor.Abs
