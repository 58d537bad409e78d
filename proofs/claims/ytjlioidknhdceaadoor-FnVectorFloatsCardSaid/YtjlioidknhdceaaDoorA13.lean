/- Values put together of parts; new rows and boxes; stores. -/
import Derived.Test.YtjlioidknhdceaaDoorA12
namespace Go.Proofs.YtjlioidknhdceaaDoor.Abs
set_option linter.all false

variable {P : Program} {w w' : World} {G G' : Gh} {a : Act} {o : Oper}
variable {w0 : World} {F0 : FT} {A : Nat → Prop} {n : Nat} {st : St} {β : Type}

def RowR (w : World) (Fr : FT) (cs : List AV) (vs : Array Value) : Prop :=
  vs.size = cs.length ∧ ∀ c (h : c < cs.length) (h' : c < vs.size), (vs[c]).oneCell' = true ∧ CR w Fr cs[c] vs[c]

theorem RowR.ext {F F' : FT} {cs : List AV} {vs : Array Value} (h : RowR w F cs vs) (hx : Ext w F w' F') : RowR w' F' cs vs :=
  ⟨h.1, fun c hc hc' => ⟨(h.2 c hc hc').1, (h.2 c hc hc').2.ext hx⟩⟩

theorem cells_RowR {Fr : FT} {x : AV} {v : Value} (h : CR w Fr x v) : RowR w Fr x.cells v.cells := by
  cases h with
  | agg xs vs hl ho hr => exact ⟨hl, fun c hc hc' => ⟨ho c hc', hr c hc hc'⟩⟩
  | bool b => exact ⟨rfl, fun c hc hc' => by obtain rfl : c = 0 := (by simp [AV.cells] at hc; exact hc); exact ⟨rfl, .bool b⟩⟩
  | int k m => exact ⟨rfl, fun c hc hc' => by obtain rfl : c = 0 := (by simp [AV.cells] at hc; exact hc); exact ⟨rfl, .int k m⟩⟩
  | str s l h => exact ⟨rfl, fun c hc hc' => by obtain rfl : c = 0 := (by simp [AV.cells] at hc; exact hc); exact ⟨rfl, .str s l h⟩⟩
  | flt k m => exact ⟨rfl, fun c hc hc' => by obtain rfl : c = 0 := (by simp [AV.cells] at hc; exact hc); exact ⟨rfl, .flt k m⟩⟩
  | nil e sz => exact ⟨rfl, fun c hc hc' => by obtain rfl : c = 0 := (by simp [AV.cells] at hc; exact hc); exact ⟨rfl, .nil e sz⟩⟩
  | frz e sz m cap ad xs vs hs hz hl hc hp hv ho hr => exact ⟨rfl, fun c hcc hcc' => by obtain rfl : c = 0 := (by simp [AV.cells] at hcc; exact hcc); exact ⟨rfl, .frz e sz m cap ad xs vs hs hz hl hc hp hv ho hr⟩⟩
  | hdr e sz m cap ad xs hz hl hc => exact ⟨rfl, fun c hcc hcc' => by obtain rfl : c = 0 := (by simp [AV.cells] at hcc; exact hcc); exact ⟨rfl, .hdr e sz m cap ad xs hz hl hc⟩⟩
  | eptr ad xs vs hs hp hv ho hr => exact ⟨rfl, fun c hcc hcc' => by obtain rfl : c = 0 := (by simp [AV.cells] at hcc; exact hcc); exact ⟨rfl, .eptr ad xs vs hs hp hv ho hr⟩⟩
  | nilptr => exact ⟨rfl, fun c hc hc' => by obtain rfl : c = 0 := (by simp [AV.cells] at hc; exact hc); exact ⟨rfl, .nilptr⟩⟩
  | iface t x v hr => exact ⟨rfl, fun c hc hc' => by obtain rfl : c = 0 := (by simp [AV.cells] at hc; exact hc); exact ⟨rfl, .iface t x v hr⟩⟩
  | nilI => exact ⟨rfl, fun c hc hc' => by obtain rfl : c = 0 := (by simp [AV.cells] at hc; exact hc); exact ⟨rfl, .nilI⟩⟩
  | fn f => exact ⟨rfl, fun c hc hc' => by obtain rfl : c = 0 := (by simp [AV.cells] at hc; exact hc); exact ⟨rfl, .fn f⟩⟩
  | gl g => exact ⟨rfl, fun c hc hc' => by obtain rfl : c = 0 := (by simp [AV.cells] at hc; exact hc); exact ⟨rfl, .gl g⟩⟩
  | nilfn => exact ⟨rfl, fun c hc hc' => by obtain rfl : c = 0 := (by simp [AV.cells] at hc; exact hc); exact ⟨rfl, .nilfn⟩⟩
  | ref i off t ht => exact ⟨rfl, fun c hc hc' => by obtain rfl : c = 0 := (by simp [AV.cells] at hc; exact hc); exact ⟨rfl, .ref i off t ht⟩⟩
  | hsl i k e sz m cap ad t ht hz hc ha => exact ⟨rfl, fun c hcc hcc' => by obtain rfl : c = 0 := (by simp [AV.cells] at hcc; exact hcc); exact ⟨rfl, .hsl i k e sz m cap ad t ht hz hc ha⟩⟩
  | sen b off cs e hp hh => exact ⟨rfl, fun c hcc hcc' => by obtain rfl : c = 0 := (by simp [AV.cells] at hcc; exact hcc); exact ⟨rfl, .sen b off cs e hp hh⟩⟩

theorem foldl_set (off : Nat) : ∀ (l : List Value) (k : Nat) (cs : Array Value) (i : Nat),
    ((l.zipIdx k).foldl (fun cs (c, j) => cs.setIfInBounds (off + j) c) cs).size = cs.size ∧
    (off + k + l.length ≤ cs.size → ((l.zipIdx k).foldl (fun cs (c, j) => cs.setIfInBounds (off + j) c) cs)[i]? = if off + k ≤ i ∧ i < off + k + l.length then l[i - (off + k)]? else cs[i]?) := by
  intro l
  induction l with
  | nil => intro k cs i; refine ⟨rfl, fun _ => ?_⟩; simp only [List.zipIdx_nil, List.foldl_nil, List.length_nil, Nat.add_zero]; rw [if_neg (by omega)]
  | cons v l ih =>
    intro k cs i
    simp only [List.zipIdx_cons, List.foldl_cons]
    obtain ⟨h1, h2⟩ := ih (k + 1) (cs.setIfInBounds (off + k) v) i
    refine ⟨by rw [h1]; simp, fun hle => ?_⟩
    simp only [List.length_cons] at hle
    rw [h2 (by simp; omega)]
    by_cases hi : i = off + k
    · subst hi
      rw [if_neg (by omega), if_pos (by simp only [List.length_cons]; omega)]
      have : off + k < cs.size := by omega
      simp [this]
    · rw [Array.getElem?_setIfInBounds_ne (Ne.symm hi)]
      by_cases hr : off + k ≤ i ∧ i < off + k + (v :: l).length
      · simp only [List.length_cons] at hr
        rw [if_pos (by omega), if_pos (by simp only [List.length_cons]; omega)]
        rw [show i - (off + k) = (i - (off + (k + 1))) + 1 by omega]
        simp
      · simp only [List.length_cons] at hr
        rw [if_neg (by omega), if_neg (by simp only [List.length_cons]; omega)]

theorem splice_length {xs ys : List AV} {i : Nat} (h : i + ys.length ≤ xs.length) : (splice xs i ys).length = xs.length := by
  unfold splice; simp; omega
theorem splice_get {xs ys : List AV} {off : Nat} (h : off + ys.length ≤ xs.length) (i : Nat) : (splice xs off ys)[i]? = if off ≤ i ∧ i < off + ys.length then ys[i - off]? else xs[i]? := by
  unfold splice
  have hto : (xs.take off).length = off := by simp; omega
  by_cases h1 : i < off
  · rw [if_neg (by omega), List.append_assoc, List.getElem?_append_left (by rw [hto]; exact h1), List.getElem?_take_of_lt h1]
  · by_cases h2 : i < off + ys.length
    · rw [if_pos (by omega), List.getElem?_append_left (by rw [List.length_append, hto]; exact h2), List.getElem?_append_right (by rw [hto]; omega), hto]
    · rw [if_neg (by omega), List.getElem?_append_right (by rw [List.length_append, hto]; omega), List.length_append, hto, List.getElem?_drop]
      congr 1; omega

theorem RowR.splice {Fr : FT} {cs ys : List AV} {vs us : Array Value} (h : RowR w Fr cs vs) (k : RowR w Fr ys us) {off : Nat} (hle : off + ys.length ≤ cs.length) {rs : Array Value}
    (hsz : rs.size = vs.size) (hrs : ∀ i, rs[i]? = if off ≤ i ∧ i < off + us.size then us[i - off]? else vs[i]?) : RowR w Fr (splice cs off ys) rs := by
  refine ⟨by rw [hsz, h.1, splice_length hle], fun c hc hc' => ?_⟩
  have hsp := splice_get hle c
  have hr := hrs c
  rw [List.getElem?_eq_getElem hc] at hsp
  rw [Array.getElem?_eq_getElem hc'] at hr
  have hk1 := k.1
  by_cases hin : off ≤ c ∧ c < off + ys.length
  · rw [if_pos hin] at hsp; rw [if_pos (by omega)] at hr
    have hl : c - off < ys.length := by omega
    have hl' : c - off < us.size := by omega
    rw [List.getElem?_eq_getElem hl] at hsp; rw [Array.getElem?_eq_getElem hl'] at hr
    injection hsp with hsp; injection hr with hr
    rw [hsp, hr]; exact k.2 _ hl hl'
  · rw [if_neg hin] at hsp; rw [if_neg (by omega)] at hr
    have hl : c < cs.length := by rw [splice_length hle] at hc; exact hc
    have hl' : c < vs.size := by omega
    rw [List.getElem?_eq_getElem hl] at hsp; rw [Array.getElem?_eq_getElem hl'] at hr
    injection hsp with hsp; injection hr with hr
    rw [hsp, hr]; exact h.2 _ hl hl'

theorem fill_sound {place : Nat → Option (Nat × Nat × Bool)} : ∀ {parts : List (Nat × Operand)} {ps : List (Nat × Nat × AX)} {cs : List AV} {vs : Array Value} {st : St} {G : Gh} {k : List AV → St → T β} {R : β → Prop},
    pParts place parts = some ps → (fillK ps cs st k).All R → SR w0 F0 A n st a w G → RowR w G.Fr cs vs →
    ∃ cs' vs' st' G', (k cs' st').All R ∧ SR w0 F0 A n st' a w G' ∧ RowR w G'.Fr cs' vs' ∧ cs'.length = cs.length ∧ G'.β = G.β ∧ Ext w G.Fr w G'.Fr ∧ Less st st' ∧
      Instr.fill (fun i => (place i).map fun q => (q.1, q.2.1)) vs (parts.map fun (i, x) => (i, a.eval x)) = some vs'
  | [], ps, cs, vs, st, G, k, R, hp, hk, h, hr => by
    simp only [pParts, Option.some.injEq] at hp; subst hp
    exact ⟨cs, vs, st, G, hk, h, hr, rfl, rfl, Ext.refl _ _, Less.refl _, rfl⟩
  | (i, x) :: parts, ps, cs, vs, st, G, k, R, hp, hk, h, hr => by
    simp only [pParts, Option.bind_eq_some_iff, Option.map_eq_some_iff] at hp
    obtain ⟨⟨off, m, ow⟩, hpl, ax, hax, l, hl, rfl⟩ := hp
    simp only [fillK, T.All_on] at hk
    obtain ⟨cs1, hf, hk⟩ := hk
    unfold fillV at hf
    split at hf
    · rename_i hcond
      injection hf with hf; subst hf
      simp only [Bool.and_eq_true, beq_iff_eq, decide_eq_true_eq] at hcond
      obtain ⟨⟨hpl1, hlen⟩, hle⟩ := hcond
      obtain ⟨G1, g1, g2, g3, g4, g5⟩ := h.giveX hax
      have hsev : (give st ax).1.several = false := by cases hgv : (give st ax).1 <;> first | rfl | (rw [hgv] at hpl1; simp [AV.plain] at hpl1)
      have hT := g5 hsev (fun _ => .mid)
      have hno : (give st ax).1.isOwn = false := by
        cases ax with
        | t t => show (gvV (st.s t)).isOwn = false; cases st.s t <;> first | rfl | (rename_i c _ _ _; cases c <;> rfl)
        | u t => show (gvV (st.s t)).isOwn = false; cases st.s t <;> first | rfl | (rename_i c _ _ _; cases c <;> rfl)
        | f t =>
          unfold give; simp only; split
          · unfold frz; repeat (first | rfl | split)
          · cases st.s t <;> first | rfl | (rename_i c _ _ _; cases c <;> rfl)
        | m t =>
          show (pin st t).1.isOwn = false
          unfold pin; split
          · rfl
          · cases st.s t <;> first | rfl | (rename_i c _ _ _; cases c <;> rfl)
        | p t => show (hdV (st.s t)).isOwn = false; cases st.s t <;> first | rfl | (rename_i c _ _ _; cases c <;> rfl)
        | c v =>
          have := const_CR (Fr := G.Fr) (w := w) (a := a) hax
          show v.isOwn = false
          cases v <;> first | rfl | (rename_i c _ _ _; cases c <;> first | rfl | cases this)
      have hC := CR_of_TC (TC_of_TR hT hpl1) hno
      have hrow := cells_RowR hC
      have hvlen : (a.eval x).cells.size = m := by rw [hrow.1, hlen]
      obtain ⟨f1, f2⟩ := foldl_set off (a.eval x).cells.toList 0 vs 0
      have hvs : off + 0 + (a.eval x).cells.toList.length ≤ vs.size := by rw [hr.1, Array.length_toList, hvlen]; simpa using hle
      obtain ⟨cs', vs', st', G', e1, e2, e3, e4, e6, e7, e8, e5⟩ := fill_sound (vs := ((a.eval x).cells.toList.zipIdx 0).foldl (fun cs (c, j) => cs.setIfInBounds (off + j) c) vs) hl hk g1
        ((hr.ext g4).splice hrow (by rw [hlen]; exact hle) f1 (fun i => by
          have := (foldl_set off (a.eval x).cells.toList 0 vs i).2 hvs
          rw [this]; simp only [Nat.add_zero, Array.length_toList, Array.getElem?_toList]))
      refine ⟨cs', vs', st', G', e1, e2, e3, by rw [e4, splice_length (by rw [hlen]; exact hle)], e6.trans g3, g4.trans e7, (give_less _ _).trans e8, ?_⟩
      simp only [List.map_cons, Instr.fill, hpl, Option.map_some]
      have hcond2 : ¬ (((a.eval x).cells.size ≠ m) || decide (off + (a.eval x).cells.size > vs.size)) = true := by
        rw [hvlen, hr.1]; simp; omega
      rw [if_neg (by simpa using hcond2)]
      rw [← Array.foldl_toList, Array.toList_zipIdx]
      exact e5
    · cases hf

end Go.Proofs.YtjlioidknhdceaaDoor.Abs
