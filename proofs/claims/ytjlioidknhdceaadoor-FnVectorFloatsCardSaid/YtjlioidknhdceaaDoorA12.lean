/- The operations that make or write memory: what they leave of the state's relation. -/
import Derived.Test.YtjlioidknhdceaaDoorA11
import Derived.Lib.ConvBytes
import Derived.Lib.AppendStr
import Derived.Great.BuildSlice
namespace Go.Proofs.YtjlioidknhdceaaDoor.Abs
set_option linter.all false

variable {P : Program} {w w' : World} {G G' : Gh} {a : Act} {o : Oper}
variable {w0 : World} {F0 : FT} {A : Nat → Prop} {n : Nat} {st : St}

theorem heap_old (w : World) (o : Go.Obj) (i : Nat) (h : i < w.heap.size) : (w.alloc o).heap[i]? = w.heap[i]? := by
  have : i ≠ w.heap.size := by omega
  simp [World.alloc, -World.alloc_eq, Array.getElem?_push, this]

theorem Kp.trans {w1 w2 : World} {D : Nat → Prop} (h : Kp w0 A w1) (k : Kp w1 D w2) (hD : ∀ b, b < w0.heap.size → D b → A b) : Kp w0 A w2 :=
  ⟨k.os.trans h.os, k.tape.trans h.tape, k.output.trans h.output, Nat.le_trans h.size k.size, fun b hb hA =>
    (k.block b (Nat.lt_of_lt_of_le hb h.size) (fun hd => hA (hD b hb hd))).trans (h.block b hb hA)⟩

def Pos.loose : Pos → Bool
  | .slot .. | .cell .. | .box _ => false
  | _ => true

theorem SR.world (h : SR w0 F0 A n st a w G) (D : Nat → Prop) (hD : ∀ b, D b → (A b ∨ w0.heap.size ≤ b) ∧ (G.ω b).loose = true) {Fr' : FT}
    (hk : Kp w D w') (hx : Ext w G.Fr w' Fr') (hF : ∀ b, b < w.heap.size → ¬ D b → Fr' b = G.Fr b) (hF' : ∀ b, w'.heap.size ≤ b → Fr' b = 0)
    (hids : ∀ i, st.h.n ≤ i → Fr'.θ i = none) : SR w0 F0 A n st a w' ⟨Fr', G.β, G.ω⟩ := by
  have hkeep : ∀ (p : Pos), p.loose = false → ∀ b, G.ω b = p → b < w.heap.size → w'.heap[b]? = w.heap[b]? ∧ Fr' b = G.Fr b ∧ G.ω b = p := by
    intro p hp b hb hlt
    have hnD : ¬ D b := fun hd => by have := (hD b hd).2; rw [hb, hp] at this; cases this
    exact ⟨hk.block b hlt hnD, hF b hlt hnD, hb⟩
  refine ⟨h.size, h.defers, fun t => (h.slots t).keeps hx (fun _ _ _ => rfl) (fun j => hkeep _ rfl), fun s cs hs => ?_, ?_, ?_, h.ext.trans hx, fun b hb => ?_, fun b hb hA => ?_, hF', h.nob⟩
  · exact (h.boxes s cs hs).keeps hx (fun _ h => h) (fun p hp => hkeep p (by rcases hp with rfl | ⟨_, rfl⟩ <;> rfl))
  · exact h.heap.keeps hx hids (fun i p hp => hkeep p (by rcases hp with rfl | ⟨_, rfl⟩ <;> rfl))
  · refine h.kept.trans hk (fun b hb hd => ?_)
    rcases (hD b hd).1 with h' | h'
    · exact h'
    · omega
  · obtain ⟨h1, h2⟩ := h.mine b hb
    exact ⟨Nat.lt_of_lt_of_le h1 hk.size, h2⟩
  · have hnD : ¬ D b := fun hd => by rcases (hD b hd).1 with h' | h'; { exact hA h' }; { omega }
    exact (hF b (Nat.lt_of_lt_of_le hb h.kept.size) hnD).trans (h.same b hb hA)

theorem SR.relabel (h : SR w0 F0 A n st a w G) {b : Nat} (hb : (G.ω b).loose = true) (hlt : b < w.heap.size) (hA : A b ∨ w0.heap.size ≤ b) (q : Pos) :
    SR w0 F0 A n st a w ⟨G.Fr, G.β, upd G.ω b q⟩ := by
  have hkeep : ∀ (p : Pos), p.loose = false → ∀ b', G.ω b' = p → b' < w.heap.size → w.heap[b']? = w.heap[b']? ∧ G.Fr b' = G.Fr b' ∧ upd G.ω b q b' = p := by
    intro p hp b' hb' _
    have hne : b' ≠ b := fun e => by subst e; rw [hb', hp] at hb; cases hb
    exact ⟨rfl, rfl, by rw [upd_ne _ _ _ _ hne]; exact hb'⟩
  refine ⟨h.size, h.defers, fun t => TR.keeps (G := G) (Ext.refl w G.Fr) (fun _ _ _ => rfl) (fun j => hkeep _ rfl) (h.slots t), fun s cs hs => ?_, ?_, h.kept, h.ext, fun b' hb' => ?_, h.same, h.fresh, h.nob⟩
  · exact BoxR.keeps (G := G) (Ext.refl w G.Fr) (fun _ h => h) (fun p hp => hkeep p (by rcases hp with rfl | ⟨_, rfl⟩ <;> rfl)) (h.boxes s cs hs)
  · exact HR.keeps (G := G) (Ext.refl w G.Fr) h.heap.ids (fun i p hp => hkeep p (by rcases hp with rfl | ⟨_, rfl⟩ <;> rfl)) h.heap
  · by_cases hbb : b' = b
    · subst hbb; exact ⟨hlt, hA⟩
    · exact h.mine b' (by simpa [upd, hbb] using hb')

theorem SR.new_free (h : SR w0 F0 A n st a w G) {b : Nat} (hb : w.heap.size ≤ b) : G.ω b = .free := by
  by_cases hf : G.ω b = .free
  · exact hf
  · have := (h.mine b hf).1; omega

theorem kp_alloc (w : World) (o : Go.Obj) (D : Nat → Prop) : Kp w D (w.alloc o) := ⟨rfl, rfl, rfl, by simp, fun b hb _ => heap_old w o b hb⟩
theorem ext_of_kp {D : Nat → Prop} {F : FT} (hk : Kp w D w') (hD : ∀ b, D b → F b = 0) (hF : ∀ b, w.heap.size ≤ b → F b = 0) : Ext w F w' F :=
  ⟨fun _ => Nat.le_refl _, fun b o v ho hv => by
    have hnD : ¬ D b := fun hd => by rw [hD b hd] at ho; omega
    have hlt : b < w.heap.size := by
      rcases Nat.lt_or_ge b w.heap.size with h | h
      · exact h
      · rw [hF b h] at ho; omega
    rw [← hv]; exact World.cell?_of_block (a := ⟨b, o, none⟩) (hk.block b hlt hnD), fun _ _ h => h, fun b cs e h1 h2 => ⟨cs, by
    have hnD : ¬ D b := fun hd => by rw [hD b hd] at h1; omega
    rw [hk.block b (Array.getElem?_eq_some_iff.1 h2).1 hnD]; exact h2⟩⟩

theorem SR.alloc (h : SR w0 F0 A n st a w G) (o : Go.Obj) : SR w0 F0 A n st a (w.alloc o) G := by
  have hk := kp_alloc w o (fun _ => False)
  have := h.world (fun _ => False) (fun _ h => h.elim) hk (ext_of_kp hk (fun _ h => h.elim) h.fresh) (fun _ _ _ => rfl) (fun b hb => h.fresh b (Nat.le_trans hk.size hb)) h.heap.ids
  exact this

theorem SR.newBox (h : SR w0 F0 A n st a w G) (d : Nat) {ob : Obj} (o : Go.Obj) (e N : Nat) (r : Bool) (hob : ObjR (w.alloc o) G (.loc d) ⟨w.heap.size, N, e, r⟩ ob) :
    ∃ G', SR w0 F0 A n (st.box d ob) a (w.alloc o) G' ∧ TR (w.alloc o) G' (.slot d) (.ptr (.loc d) 0) (.pointer (some ⟨w.heap.size, 0, none⟩)) := by
  have h1 := h.alloc o
  have hfree := h.new_free (Nat.le_refl w.heap.size)
  have hsz : (w.alloc o).heap.size = w.heap.size + 1 := by simp
  have hkeep : ∀ (p : Pos), p ≠ .free → ∀ b', G.ω b' = p → b' < (w.alloc o).heap.size →
      (w.alloc o).heap[b']? = (w.alloc o).heap[b']? ∧ G.Fr b' = G.Fr b' ∧ upd G.ω w.heap.size (.box (.loc d)) b' = p := by
    intro p hp b' hb' _
    have hne : b' ≠ w.heap.size := fun e => by subst e; exact hp (hb'.symm.trans hfree)
    exact ⟨rfl, rfl, by rw [upd_ne _ _ _ _ hne]; exact hb'⟩
  let G' : Gh := ⟨G.Fr, upd G.β d (some ⟨w.heap.size, N, e, r⟩), upd G.ω w.heap.size (.box (.loc d))⟩
  have hne : ∀ p, p ≠ Pos.free → ∀ b', G.ω b' = p → b' < (w.alloc o).heap.size → (w.alloc o).heap[b']? = (w.alloc o).heap[b']? ∧ G'.Fr b' = G.Fr b' ∧ G'.ω b' = p := hkeep
  refine ⟨G', ⟨h1.size, h1.defers, fun t => ?_, fun s ob' hs => ?_, ?_, h1.kept, h1.ext, fun b' hb' => ?_, h1.same, h1.fresh, fun u hu => by
    have hud : u ≠ d := fun e => by subst e; simp [St.box, upd] at hu
    show upd _ _ _ _ = _
    rw [upd_ne _ _ _ _ hud]
    exact h1.nob u (by simpa [St.box, upd, hud] using hu)⟩, ⟨⟨w.heap.size, N, e, r⟩, by simp [G', upd], rfl⟩⟩
  · show TR _ _ (.slot t) ((st.s t).kill d) _
    have ht := h1.slots t
    cases hx : st.s t with
    | ptr k off => cases k with
      | loc s =>
        by_cases hsd : s = d
        · subst hsd; simp only [AV.kill, if_pos]; trivial
        · simp only [AV.kill, if_neg hsd]
          rw [hx] at ht
          obtain ⟨b, hb, hv⟩ := ht
          exact ⟨b, by show upd _ _ _ _ = _; rw [upd_ne _ _ _ _ hsd]; exact hb, hv⟩
      | obj i => rw [hx] at ht; exact TR.keeps (G := G) (G' := G') (Ext.refl _ G.Fr) (fun _ _ e => by cases e) (fun j => hne _ (by simp)) ht
    | _ => rw [hx] at ht; exact TR.keeps (G := G) (G' := G') (Ext.refl _ G.Fr) (fun _ _ e => by cases e) (fun j => hne _ (by simp)) ht
  · by_cases hsd : s = d
    · subst hsd
      have : ob = ob' := by simpa [St.box, upd] using hs
      subst this
      exact ⟨⟨w.heap.size, N, e, r⟩, by simp [G', Gh.at, upd], by simp [G', upd], by simp, hob.map (G' := G') (Ext.refl _ _) rfl (fun h => h) (fun c x v hx => TC.keeps (G := G) (Ext.refl _ _) (hne _ (by simp)) hx)⟩
    · have hs' : st.b s = some ob' := by simpa [St.box, upd, hsd] using hs
      refine BoxR.keeps (G := G) (G' := G') (Ext.refl _ G.Fr) (fun t ht => ?_) (fun p hp => hne p (by rcases hp with rfl | ⟨_, rfl⟩ <;> simp)) (h1.boxes s ob' hs')
      show upd _ _ _ _ = _; rw [upd_ne _ _ _ _ hsd]; exact ht
  · exact HR.keeps (G := G) (G' := G') (Ext.refl _ G.Fr) h1.heap.ids (fun i p hp => hne p (by rcases hp with rfl | ⟨_, rfl⟩ <;> simp)) h1.heap
  · by_cases hbb : b' = w.heap.size
    · subst hbb; exact ⟨by omega, .inr h.kept.size⟩
    · exact h1.mine b' (by have : G'.ω b' = G.ω b' := upd_ne _ _ _ _ hbb; rw [← this]; exact hb')

theorem SR.newBox1 (h : SR w0 F0 A n st a w G) (d : Nat) (hd : st.b d = none) {ob : Obj} (o : Go.Obj) (e N : Nat) (r : Bool) (hob : ObjR (w.alloc o) G (.loc d) ⟨w.heap.size, N, e, r⟩ ob) :
    ∃ G', SR w0 F0 A n ⟨st.s, upd st.b d (some ob), st.h⟩ a (w.alloc o) G' ∧ TR (w.alloc o) G' (.slot d) (.ptr (.loc d) 0) (.pointer (some ⟨w.heap.size, 0, none⟩)) ∧ G'.Fr = G.Fr ∧ ∀ s t, G.β s = some t → G'.β s = some t := by
  have h1 := h.alloc o
  have hβd := h.nob d hd
  have hfree := h.new_free (Nat.le_refl w.heap.size)
  have hsz : (w.alloc o).heap.size = w.heap.size + 1 := by simp
  let G' : Gh := ⟨G.Fr, upd G.β d (some ⟨w.heap.size, N, e, r⟩), upd G.ω w.heap.size (.box (.loc d))⟩
  have hne : ∀ p, p ≠ Pos.free → ∀ b', G.ω b' = p → b' < (w.alloc o).heap.size → (w.alloc o).heap[b']? = (w.alloc o).heap[b']? ∧ G'.Fr b' = G.Fr b' ∧ G'.ω b' = p := by
    intro p hp b' hb' _
    have hne : b' ≠ w.heap.size := fun e => by subst e; exact hp (hb'.symm.trans hfree)
    exact ⟨rfl, rfl, by show upd _ _ _ _ = _; rw [upd_ne _ _ _ _ hne]; exact hb'⟩
  have hβ : ∀ s t, G.β s = some t → G'.β s = some t := fun s t hs => by
    have hsd : s ≠ d := fun e => by subst e; rw [hβd] at hs; cases hs
    show upd _ _ _ _ = _; rw [upd_ne _ _ _ _ hsd]; exact hs
  refine ⟨G', ⟨h1.size, h1.defers, fun t => ?_, fun s ob' hs => ?_, ?_, h1.kept, h1.ext, fun b' hb' => ?_, h1.same, h1.fresh, fun u hu => ?_⟩, ⟨⟨w.heap.size, N, e, r⟩, by simp [G', upd], rfl⟩, rfl, hβ⟩
  · show TR _ _ (.slot t) (st.s t) _
    have ht := h1.slots t
    cases hx : st.s t with
    | ptr k off => cases k with
      | loc s =>
        rw [hx] at ht
        obtain ⟨b, hb, hv⟩ := ht
        exact ⟨b, hβ _ _ hb, hv⟩
      | obj i => rw [hx] at ht; exact TR.keeps (G := G) (G' := G') (Ext.refl _ G.Fr) (fun _ _ e => by cases e) (fun j => hne _ (by simp)) ht
    | _ => rw [hx] at ht; exact TR.keeps (G := G) (G' := G') (Ext.refl _ G.Fr) (fun _ _ e => by cases e) (fun j => hne _ (by simp)) ht
  · by_cases hsd : s = d
    · subst hsd
      have : ob = ob' := by simpa [upd] using hs
      subst this
      exact ⟨⟨w.heap.size, N, e, r⟩, by simp [G', Gh.at, upd], by simp [G', upd], by simp, hob.map (G' := G') (Ext.refl _ _) rfl (fun h => h) (fun c x v hx => TC.keeps (G := G) (Ext.refl _ _) (hne _ (by simp)) hx)⟩
    · have hs' : st.b s = some ob' := by simpa [upd, hsd] using hs
      refine BoxR.keeps (G := G) (G' := G') (Ext.refl _ G.Fr) (fun t ht => ?_) (fun p hp => hne p (by rcases hp with rfl | ⟨_, rfl⟩ <;> simp)) (h1.boxes s ob' hs')
      exact hβ _ _ ht
  · exact HR.keeps (G := G) (G' := G') (Ext.refl _ G.Fr) h1.heap.ids (fun i p hp => hne p (by rcases hp with rfl | ⟨_, rfl⟩ <;> simp)) h1.heap
  · by_cases hbb : b' = w.heap.size
    · subst hbb; exact ⟨by omega, .inr h.kept.size⟩
    · exact h1.mine b' (by have : G'.ω b' = G.ω b' := upd_ne _ _ _ _ hbb; rw [← this]; exact hb')
  · have hud : u ≠ d := fun e => by subst e; simp [upd] at hu
    show upd _ _ _ _ = _
    rw [upd_ne _ _ _ _ hud]
    exact h1.nob u (by simpa [upd, hud] using hu)

theorem SR.newObj (h : SR w0 F0 A n st a w G) {ob : Obj} (o : Go.Obj) (e N : Nat) (r : Bool) (hob : ObjR (w.alloc o) G (.obj st.h.n) ⟨w.heap.size, N, e, r⟩ ob) :
    ∃ G', SR w0 F0 A n (st.pushH ob) a (w.alloc o) G' ∧ G'.Fr.θ st.h.n = some ⟨w.heap.size, N, e, r⟩ ∧ G'.β = G.β ∧ Ext w G.Fr (w.alloc o) G'.Fr := by
  have h1 := h.alloc o
  have hfree := h.new_free (Nat.le_refl w.heap.size)
  have hsz : (w.alloc o).heap.size = w.heap.size + 1 := by simp
  have hn0 := h.heap.ids st.h.n (Nat.le_refl _)
  let th : Th := ⟨w.heap.size, N, e, r⟩
  let G' : Gh := ⟨G.Fr.name st.h.n th, G.β, upd G.ω w.heap.size (.box (.obj st.h.n))⟩
  have hE : Ext (w.alloc o) G.Fr (w.alloc o) G'.Fr := Ext.name hn0 th
  have hne : ∀ p, p ≠ Pos.free → ∀ b', G.ω b' = p → b' < (w.alloc o).heap.size → (w.alloc o).heap[b']? = (w.alloc o).heap[b']? ∧ G'.Fr b' = G.Fr b' ∧ G'.ω b' = p := by
    intro p hp b' hb' _
    have hne : b' ≠ w.heap.size := fun e => by subst e; exact hp (hb'.symm.trans hfree)
    exact ⟨rfl, rfl, by show upd _ _ _ _ = _; rw [upd_ne _ _ _ _ hne]; exact hb'⟩
  have hx0 : Ext w G.Fr (w.alloc o) G.Fr := ext_of_kp (kp_alloc w o (fun _ => False)) (fun _ h => h.elim) h.fresh
  refine ⟨G', ⟨h1.size, h1.defers, fun t => ?_, fun s ob' hs => ?_, ⟨fun i ob' hi => ?_, fun i hi => ?_, fun g xs hg => (h1.heap.glob g xs hg).ext hE⟩, h1.kept, h1.ext.trans hE, fun b' hb' => ?_, h1.same, h1.fresh, h1.nob⟩, FT.name_same _ _ _, rfl, hx0.trans hE⟩
  · exact TR.keeps (G := G) (G' := G') hE (fun _ _ _ => rfl) (fun j => hne _ (by simp)) (h1.slots t)
  · exact BoxR.keeps (G := G) (G' := G') hE (fun t ht => ht) (fun p hp => hne p (by rcases hp with rfl | ⟨_, rfl⟩ <;> simp)) (h1.boxes s ob' hs)
  · have hi' : (st.h.push ob).get i = some ob' := hi
    rw [H.get_push] at hi'
    split at hi'
    · rename_i hin
      subst hin
      injection hi' with hi'; subst hi'
      exact ⟨th, FT.name_same _ _ _, by simp [G', th, upd], by simp [th], hob.map (G' := G') hE rfl (fun h => h) (fun c x v hx => TC.keeps (G := G) hE (hne _ (by simp)) hx)⟩
    · exact BoxR.keeps (G := G) (G' := G') hE (fun t ht => hE.ids _ _ ht) (fun p hp => hne p (by rcases hp with rfl | ⟨_, rfl⟩ <;> simp)) (h1.heap.box i ob' hi')
  · have hi' : (st.h.push ob).n ≤ i := hi
    rw [H.n_push] at hi'
    show (G.Fr.name st.h.n th).θ i = none
    rw [FT.name_ne _ _ _ _ (by omega)]; exact h.heap.ids i (by omega)
  · by_cases hbb : b' = w.heap.size
    · subst hbb; exact ⟨by omega, .inr h.kept.size⟩
    · exact h1.mine b' (by have : G'.ω b' = G.ω b' := upd_ne _ _ _ _ hbb; rw [← this]; exact hb')

theorem SR.newRow (h : SR w0 F0 A n st a w G) {cs : List AV} {vs : Array Value} (e sz m : Nat) (hz : 0 < sz) (hm : cs.length = m * sz) (hl : vs.size = cs.length) (hml : m ≤ maxLen)
    (hc : ∀ c (h : c < cs.length) (h' : c < vs.size), (vs[c]).oneCell' = true ∧ CR w G.Fr cs[c] vs[c]) (q : Nat → Pos) (hq : q 0 ≠ .free) :
    ∃ G', SR w0 F0 A n st a (w.alloc (.cells vs e)) G' ∧ TR (w.alloc (.cells vs e)) G' q (.slice (.own true) e sz cs) (.slice (some ⟨w.heap.size, 0, none⟩) m m) ∧ G'.β = G.β ∧ Ext w G.Fr (w.alloc (.cells vs e)) G'.Fr := by
  have h1 := h.alloc (.cells vs e)
  have hfree := h.new_free (Nat.le_refl w.heap.size)
  have hsz : (w.alloc (.cells vs e)).heap.size = w.heap.size + 1 := by simp
  have hnew : (w.alloc (.cells vs e)).heap[w.heap.size]? = some (.cells vs e) := heap_alloc_new w _
  have h2 := h1.relabel (b := w.heap.size) (by rw [hfree]; rfl) (by omega) (.inr h.kept.size) (q 0)
  have hx : Ext w G.Fr (w.alloc (.cells vs e)) G.Fr := ext_of_kp (kp_alloc w _ (fun _ => False)) (fun _ h => h.elim) h.fresh
  refine ⟨_, h2, TR_of_TC ⟨w.heap.size, by simp [upd], m, vs.toList, ?_, by simp [Value.ownBlock], hz, by simpa using hl, fun i hi hi' => ?_, by simp only; rw [h.fresh _ (Nat.le_refl _)]; omega, fun _ => h.fresh _ (Nat.le_refl _)⟩ rfl, rfl, hx⟩
  · refine ⟨by simp only [Array.length_toList]; omega, .inr ⟨w.heap.size, m, vs, rfl, Nat.zero_le _, hnew, Nat.le_refl _, hml, by omega, ?_⟩⟩
    rw [List.take_of_length_le (by simp only [Array.length_toList]; omega)]
  · have := hc i hi (by simpa using hi')
    exact ⟨by simpa using this.1, by simpa using this.2.ext hx⟩

end Go.Proofs.YtjlioidknhdceaaDoor.Abs
