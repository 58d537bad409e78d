/- How the state's relation is kept when the world changes: boxes. -/
import Derived.Test.YtdnfnobgeddbfaaA9
import Derived.Laws.CopyRow
namespace Go.Proofs.Ytdnfnobgeddbfaa.Abs
set_option linter.all false

variable {P : Program} {w w' : World} {G G' : Gh} {a : Act} {o : Oper}
variable {w0 : World} {F0 : Nat → Nat} {A : Nat → Prop} {n : Nat} {st : St}

theorem TC.keeps {p : Pos} {x : AV} {v : Value} (hx : Ext w G.Fr w' G'.Fr)
    (hk : ∀ b, G.ω b = p → b < w.heap.size → w'.heap[b]? = w.heap[b]? ∧ G'.Fr b = G.Fr b ∧ G'.ω b = p) (h : TC w G p x v) : TC w' G' p x v := by
  by_cases hown : x.isOwn = true
  · cases x with
    | slice c e sz xs => cases c with
      | own f =>
        obtain ⟨b, hb, hO⟩ := h
        obtain ⟨h1, h2, h3⟩ := hk b hb hO.lt
        exact ⟨b, h3, hO.ext hx h1 h2⟩
      | _ => simp [AV.isOwn] at hown
    | _ => simp [AV.isOwn] at hown
  · exact TC_of_CR ((CR_of_TC h (by simpa using hown)).ext hx)

theorem TR.keeps {p : Nat → Pos} {x : AV} {v : Value} (hx : Ext w G.Fr w' G'.Fr) (hβ : ∀ s off, x = .ptr s off → G'.β s = G.β s)
    (hk : ∀ j b, G.ω b = p j → b < w.heap.size → w'.heap[b]? = w.heap[b]? ∧ G'.Fr b = G.Fr b ∧ G'.ω b = p j) (h : TR w G p x v) : TR w' G' p x v := by
  cases x with
  | tup xs =>
    obtain ⟨vs, rfl, hl, hr⟩ := h
    exact ⟨vs, rfl, hl, fun j h h' => (hr j h h').keeps hx (hk _)⟩
  | ptr s off => obtain ⟨b, hb, rfl⟩ := h; exact ⟨b, by rw [hβ s off rfl]; exact hb, rfl⟩
  | skipped => exact h
  | undef => trivial
  | slice c e sz xs => exact TR_of_TC (TC.keeps hx (hk 0) (TC_of_TR h rfl)) rfl
  | _ => exact TR_of_TC (TC.keeps hx (hk 0) (TC_of_TR h rfl)) rfl

/-- The world after a row of the call's own has been written. -/
theorem ext_setRow {g : Nat} (h : G.Fr g = 0) (cs : Array Value) : Ext w G.Fr (w.setRow g cs) G.Fr :=
  ⟨fun _ => Nat.le_refl _, fun b o v ho hv => by
    have hne : b ≠ g := fun e => by subst e; omega
    rw [← hv]; exact World.cell?_of_block (a := ⟨b, o, none⟩) (setRow_other w g b cs hne)⟩

theorem kp_setRow {g : Nat} (hk : Kp w0 A w) (hg : A g ∨ w0.heap.size ≤ g) (cs : Array Value) : Kp w0 A (w.setRow g cs) :=
  ⟨hk.os, hk.tape, hk.output, by rw [size_setRow]; exact hk.size, fun b hb hA => by
    rw [setRow_other w g b cs (fun e => by subst e; rcases hg with h | h; { exact hA h }; { omega })]
    exact hk.block b hb hA⟩

/-- A box's cells are turned, the world standing: cell by cell the same, or contents of the same cell's row (given up). -/
theorem SR.turnCell (h : SR w0 F0 A n st a w G) {s c b : Nat} {cs : List AV} (hs : st.b s = some cs) (hc : c < cs.length) (hb : G.ω b = .cell s c) (ho : Gh.Off G G' b)
    (hm : G.Fr b ≤ G'.Fr b) {x : AV} (hx : ∀ g vs e, G.β s = some g → w.heap[g]? = some (.cells vs e (0, 0)) → ∀ (h' : c < vs.size), TC w G (.cell s c) cs[c] vs[c] → TC w G' (.cell s c) x vs[c]) :
    SR w0 F0 A n ⟨st.s, upd st.b s (some (cs.set c x))⟩ a w G' := by
  have hE : Ext w G.Fr w G'.Fr := ⟨fun c => by by_cases hc : c = b; { subst hc; exact hm }; { rw [ho.Fr c hc]; exact Nat.le_refl _ }, fun _ _ _ _ h => h⟩
  have hmine := h.mine b (by rw [hb]; simp)
  have hk : ∀ (p : Pos), p ≠ .cell s c → ∀ b', G.ω b' = p → b' < w.heap.size → w.heap[b']? = w.heap[b']? ∧ G'.Fr b' = G.Fr b' ∧ G'.ω b' = p := by
    intro p hp b' hb' _
    have hne : b' ≠ b := fun e => by subst e; exact hp (hb'.symm.trans hb)
    exact ⟨rfl, ho.Fr b' hne, by rw [ho.ω b' hne]; exact hb'⟩
  refine ⟨h.size, h.defers, fun u => (h.slots u).keeps hE (fun _ _ _ => by rw [ho.β]) (fun j => hk _ (by simp)), fun s' cs' hs' => ?_, h.kept, h.ext.trans hE, fun b' hb' => ?_, fun b' hb' hA => ?_, fun b' hb' => ?_⟩
  · by_cases hss : s' = s
    · subst hss
      have hs'' : cs.set c x = cs' := by simpa [upd] using hs'
      subst hs''
      obtain ⟨g, vs, e, h1, h2, h3, h4, h5, h6⟩ := h.boxes s' cs hs
      have hg : g ≠ b := fun e => by subst e; rw [hb] at h2; cases h2
      refine ⟨g, vs, e, by rw [ho.β]; exact h1, by rw [ho.ω g hg]; exact h2, by rw [ho.Fr g hg]; exact h3, h4, by simpa using h5, fun i hi hi' => ?_⟩
      have hi2 : i < cs.length := by simpa using hi
      refine ⟨(h6 i hi2 hi').1, ?_⟩
      by_cases hic : i = c
      · subst hic; simp only [List.getElem_set_self]; exact hx g vs e h1 h4 hi' (h6 i hi2 hi').2
      · rw [List.getElem_set_ne (fun e => hic e.symm)]
        exact (h6 i hi2 hi').2.keeps hE (hk _ (by intro e; injection e with _ e; exact hic e))
    · have hs'' : st.b s' = some cs' := by simpa [upd, hss] using hs'
      obtain ⟨g, vs, e, h1, h2, h3, h4, h5, h6⟩ := h.boxes s' cs' hs''
      have hg : g ≠ b := fun e => by subst e; rw [hb] at h2; cases h2
      exact ⟨g, vs, e, by rw [ho.β]; exact h1, by rw [ho.ω g hg]; exact h2, by rw [ho.Fr g hg]; exact h3, h4, h5,
        fun i hi hi' => ⟨(h6 i hi hi').1, (h6 i hi hi').2.keeps hE (hk _ (by intro e; injection e with e _; exact hss e))⟩⟩
  · by_cases hcb : b' = b
    · subst hcb; exact hmine
    · exact h.mine b' (by rw [← ho.ω b' hcb]; exact hb')
  · by_cases hcb : b' = b
    · subst hcb; rcases hmine.2 with h' | h'
      · exact absurd h' hA
      · omega
    · rw [ho.Fr b' hcb]; exact h.same b' hb' hA
  · by_cases hcb : b' = b
    · subst hcb; exact absurd hmine.1 (by omega)
    · rw [ho.Fr b' hcb]; exact h.fresh b' hb'

theorem set_self' (cs : List AV) (c : Nat) (h : c < cs.length) : cs.set c cs[c] = cs := by
  apply List.ext_getElem
  · simp
  · intro i h1 h2
    by_cases hic : c = i
    · subst hic; simp
    · rw [List.getElem_set_ne hic]

theorem upd_self {α : Type} (s : Nat → α) (i : Nat) (v : α) (h : s i = v) : upd s i v = s := by
  funext j; simp only [upd]; split <;> simp_all

/-- One cell given up. -/
theorem SR.giveCell (h : SR w0 F0 A n st a w G) {s c : Nat} {cs : List AV} (hs : st.b s = some cs) (hc : c < cs.length) :
    ∃ G', SR w0 F0 A n ⟨st.s, upd st.b s (some (cs.set c (gvV cs[c])))⟩ a w G' ∧ (∀ q x v, q ≠ .cell s c → TC w G q x v → TC w G' q x v) ∧ (∀ g, G.ω g ≠ .cell s c → G'.ω g = G.ω g) ∧ G'.β = G.β ∧ Ext w G.Fr w G'.Fr ∧
      (∀ g vs e, G.β s = some g → w.heap[g]? = some (.cells vs e (0, 0)) → ∀ (h' : c < vs.size), CR w G'.Fr (gvV cs[c]) vs[c]) := by
  obtain ⟨g, vs, e, h1, h2, h3, h4, h5, h6⟩ := h.boxes s cs hs
  have hcv : c < vs.size := by omega
  have huniq : ∀ g' vs' e', G.β s = some g' → w.heap[g']? = some (.cells vs' e' (0, 0)) → g' = g ∧ vs' = vs := by
    intro g' vs' e' ha hb
    rw [h1] at ha; injection ha with ha; subst ha
    rw [h4] at hb; injection hb with hb; injection hb with hb1 hb2; exact ⟨rfl, hb1.symm⟩
  have hT := (h6 c hc hcv).2
  by_cases hown : (cs[c]).isOwn = true
  · cases hx : cs[c] with
    | slice cl e1 sz xs => cases cl with
      | own f =>
        rw [hx] at hT
        obtain ⟨b, hb, hO⟩ := hT
        have hle : G.Fr b ≤ xs.length := by obtain ⟨_, _, _, _, _, _, _, h1, _⟩ := hO; exact h1
        have hm : G.Fr b ≤ (G.promise b xs.length .free).Fr b := by simp only [Gh.promise, upd_same]; exact hle
        have hE : Ext w G.Fr w (G.promise b xs.length .free).Fr :=
          ⟨fun c => by by_cases hc : c = b; { subst hc; exact hm }; { rw [(G.promise_off b xs.length .free).Fr c hc]; exact Nat.le_refl _ }, fun _ _ _ _ h => h⟩
        have hC : CR w (G.promise b xs.length .free).Fr (gvV (AV.slice (.own f) e1 sz xs)) vs[c] := hO.frz hE (by simp [Gh.promise, upd_same]) e1
        refine ⟨G.promise b xs.length .free, ?_, fun q x v hq hv => TC.turn (G.promise_off b xs.length .free) hE (by rw [hb]; exact fun e => hq e.symm) hv, fun g' hg' => (G.promise_off b xs.length .free).ω g' (fun e => hg' (e ▸ hb)), rfl, hE, ?_⟩
        · refine h.turnCell hs hc hb (G.promise_off b xs.length .free) hm (fun g' vs' e' ha hb' h' _ => ?_)
          obtain ⟨rfl, rfl⟩ := huniq g' vs' e' ha hb'
          exact TC_of_CR hC
        · intro g' vs' e' ha hb' h'
          obtain ⟨rfl, rfl⟩ := huniq g' vs' e' ha hb'
          exact hC
      | _ => rw [hx] at hown; simp [AV.isOwn] at hown
    | _ => rw [hx] at hown; simp [AV.isOwn] at hown
  · have he := frozen_of_not_own (by simpa using hown : (cs[c]).isOwn = false)
    refine ⟨G, ?_, fun _ _ _ _ h => h, fun _ _ => rfl, rfl, Ext.refl _ _, ?_⟩
    · rw [he, set_self' cs c hc, upd_self _ _ _ hs]; exact h
    · intro g' vs' e' ha hb' h'
      obtain ⟨rfl, rfl⟩ := huniq g' vs' e' ha hb'
      rw [he]; exact CR_of_TC hT (by simpa using hown)

/-- A row of cells, each given up. -/
def giveAll : Nat → Nat → List AV → List AV
  | 0, _, cs => cs
  | k + 1, off, cs => giveAll k (off + 1) (cs.set off (gvV (cs.getD off .undef)))

theorem giveAll_length (k : Nat) : ∀ (off : Nat) (cs : List AV), (giveAll k off cs).length = cs.length := by
  induction k with
  | zero => intro off cs; rfl
  | succ k ih => intro off cs; simp [giveAll, ih]

theorem giveAll_get (k : Nat) : ∀ (off : Nat) (cs : List AV) (i : Nat), off + k ≤ cs.length → (giveAll k off cs)[i]? = if off ≤ i ∧ i < off + k then (cs[i]?).map gvV else cs[i]? := by
  induction k with
  | zero => intro off cs i _; simp only [giveAll]; rw [if_neg (by omega)]
  | succ k ih =>
    intro off cs i hle
    simp only [giveAll]
    rw [ih (off + 1) _ i (by simpa using (by omega : off + 1 + k ≤ cs.length))]
    by_cases h1 : i = off
    · subst h1
      rw [if_neg (by omega), if_pos (by omega)]
      have : i < cs.length := by omega
      simp [List.getElem?_set_self this, List.getElem?_eq_getElem this, List.getD]
    · have hne : off ≠ i := fun e => h1 e.symm
      simp only [List.getElem?_set_ne hne]
      by_cases h2 : off ≤ i ∧ i < off + (k + 1)
      · rw [if_pos h2, if_pos (by omega)]
      · rw [if_neg h2, if_neg (by omega)]

theorem giveAll_splice (k off : Nat) (cs : List AV) (h : off + k ≤ cs.length) : giveAll k off cs = splice cs off (((cs.drop off).take k).map gvV) := by
  apply List.ext_getElem?
  intro i
  rw [giveAll_get k off cs i h]
  unfold splice
  have hl : (((cs.drop off).take k).map gvV).length = k := by simp; omega
  have hto : (cs.take off).length = off := by simp; omega
  by_cases h1 : i < off
  · rw [if_neg (by omega), List.append_assoc, List.getElem?_append_left (by rw [hto]; exact h1), List.getElem?_take_of_lt h1]
  · by_cases h2 : i < off + k
    · rw [if_pos (by omega), List.getElem?_append_left (by rw [List.length_append, hto, hl]; exact h2), List.getElem?_append_right (by rw [hto]; omega), hto]
      simp only [List.getElem?_map, List.getElem?_take, List.getElem?_drop]
      rw [if_pos (by omega), show off + (i - off) = i by omega]
    · rw [if_neg (by omega), List.getElem?_append_right (by rw [List.length_append, hto, hl]; omega), List.length_append, hto, hl, List.getElem?_drop]
      congr 1; omega

theorem SR.giveRow (k : Nat) : ∀ {st : St} {G : Gh} (_ : SR w0 F0 A n st a w G) {s off : Nat} {cs : List AV} (_ : st.b s = some cs) (_ : off + k ≤ cs.length),
    ∃ G', SR w0 F0 A n ⟨st.s, upd st.b s (some (giveAll k off cs))⟩ a w G' ∧ (∀ q x v, (∀ c, q ≠ .cell s c) → TC w G q x v → TC w G' q x v) ∧ (∀ g, (∀ c, G.ω g ≠ .cell s c) → G'.ω g = G.ω g) ∧ G'.β = G.β ∧ Ext w G.Fr w G'.Fr := by
  induction k with
  | zero =>
    intro st G h s off cs hs _
    refine ⟨G, ?_, fun _ _ _ _ h => h, fun _ _ => rfl, rfl, Ext.refl _ _⟩
    simp only [giveAll]; rw [upd_self _ _ _ hs]; exact h
  | succ k ih =>
    intro st G h s off cs hs hle
    have hc : off < cs.length := by omega
    obtain ⟨G1, g1, g2, g5, g3, g4, _⟩ := h.giveCell hs hc
    have hgd : cs.getD off .undef = cs[off] := by simp [List.getD, List.getElem?_eq_getElem hc]
    obtain ⟨G2, k1, k2, k5, k3, k4⟩ := ih g1 (s := s) (off := off + 1) (cs := cs.set off (gvV cs[off])) (by simp [upd]) (by simpa using (by omega : off + 1 + k ≤ cs.length))
    refine ⟨G2, ?_, fun q x v hq hv => k2 q x v hq (g2 q x v (hq off) hv), fun g hg => (k5 g (fun c => by rw [g5 g (hg off)]; exact hg c)).trans (g5 g (hg off)), k3.trans g3, g4.trans k4⟩
    simp only [giveAll, hgd]
    have : upd (upd st.b s (some (cs.set off (gvV cs[off])))) s (some (giveAll k (off + 1) (cs.set off (gvV cs[off])))) = upd st.b s (some (giveAll k (off + 1) (cs.set off (gvV cs[off])))) := by
      funext j; simp only [upd]; split <;> rfl
    rw [this] at k1; exact k1

end Go.Proofs.Ytdnfnobgeddbfaa.Abs
