/- A12, A13, A14 -/
import Derived.Test.YtcodfehgnjplcaaGreatDoorA11
import Derived.Lib.ConvBytes
import Derived.Lib.AppendStr
import Derived.Great.BuildSlice
/- The operations that make or write memory: what they leave of the state's relation. -/
namespace Go.Proofs.YtcodfehgnjplcaaGreatDoor.Abs
set_option linter.all false

variable {P : Program} {w w' : World} {G G' : Gh} {a : Act} {o : Oper}
variable {w0 : World} {F0 : FT} {A : Nat → Prop} {n : Nat} {st : St}

theorem heap_old (w : World) (o : Go.Obj) (i : Nat) (h : i < w.heap.size) : (w.alloc o).heap[i]? = w.heap[i]? := by
  have : i ≠ w.heap.size := by omega
  simp [World.alloc, -World.alloc_eq, Array.getElem?_push, this]

theorem Kp.trans {w1 w2 : World} {D : Nat → Prop} (h : Kp w0 A w1) (k : Kp w1 D w2) (hD : ∀ b, b < w0.heap.size → D b → A b) : Kp w0 A w2 :=
  ⟨k.os.trans h.os, k.tape.trans h.tape, k.output.trans h.output, Nat.le_trans h.size k.size, fun b hb hA =>
    (k.block b (Nat.lt_of_lt_of_le hb h.size) (fun hd => hA (hD b hb hd))).trans (h.block b hb hA)⟩

def Pos.loose : Pos → Bool
  | .slot .. | .cell .. | .box _ => false
  | _ => true

theorem SR.world (h : SR w0 F0 A n st a w G) (D : Nat → Prop) (hD : ∀ b, D b → (A b ∨ w0.heap.size ≤ b) ∧ (G.ω b).loose = true) {Fr' : FT}
    (hk : Kp w D w') (hx : Ext w G.Fr w' Fr') (hF : ∀ b, b < w.heap.size → ¬ D b → Fr' b = G.Fr b) (hF' : ∀ b, w'.heap.size ≤ b → Fr' b = 0)
    (hids : ∀ i, st.h.n ≤ i → Fr'.θ i = none) : SR w0 F0 A n st a w' ⟨Fr', G.β, G.ω⟩ := by
  have hkeep : ∀ (p : Pos), p.loose = false → ∀ b, G.ω b = p → b < w.heap.size → w'.heap[b]? = w.heap[b]? ∧ Fr' b = G.Fr b ∧ G.ω b = p := by
    intro p hp b hb hlt
    have hnD : ¬ D b := fun hd => by have := (hD b hd).2; rw [hb, hp] at this; cases this
    exact ⟨hk.block b hlt hnD, hF b hlt hnD, hb⟩
  refine ⟨h.size, h.defers, fun t => (h.slots t).keeps hx (fun _ _ _ => rfl) (fun j => hkeep _ rfl), fun s cs hs => ?_, ?_, ?_, h.ext.trans hx, fun b hb => ?_, fun b hb hA => ?_, hF', h.nob⟩
  · exact (h.boxes s cs hs).keeps hx (fun _ h => h) (fun p hp => hkeep p (by rcases hp with rfl | ⟨_, rfl⟩ <;> rfl))
  · exact h.heap.keeps hx hids (fun i p hp => hkeep p (by rcases hp with rfl | ⟨_, rfl⟩ <;> rfl))
  · refine h.kept.trans hk (fun b hb hd => ?_)
    rcases (hD b hd).1 with h' | h'
    · exact h'
    · omega
  · obtain ⟨h1, h2⟩ := h.mine b hb
    exact ⟨Nat.lt_of_lt_of_le h1 hk.size, h2⟩
  · have hnD : ¬ D b := fun hd => by rcases (hD b hd).1 with h' | h'; { exact hA h' }; { omega }
    exact (hF b (Nat.lt_of_lt_of_le hb h.kept.size) hnD).trans (h.same b hb hA)

theorem SR.relabel (h : SR w0 F0 A n st a w G) {b : Nat} (hb : (G.ω b).loose = true) (hlt : b < w.heap.size) (hA : A b ∨ w0.heap.size ≤ b) (q : Pos) :
    SR w0 F0 A n st a w ⟨G.Fr, G.β, upd G.ω b q⟩ := by
  have hkeep : ∀ (p : Pos), p.loose = false → ∀ b', G.ω b' = p → b' < w.heap.size → w.heap[b']? = w.heap[b']? ∧ G.Fr b' = G.Fr b' ∧ upd G.ω b q b' = p := by
    intro p hp b' hb' _
    have hne : b' ≠ b := fun e => by subst e; rw [hb', hp] at hb; cases hb
    exact ⟨rfl, rfl, by rw [upd_ne _ _ _ _ hne]; exact hb'⟩
  refine ⟨h.size, h.defers, fun t => TR.keeps (G := G) (Ext.refl w G.Fr) (fun _ _ _ => rfl) (fun j => hkeep _ rfl) (h.slots t), fun s cs hs => ?_, ?_, h.kept, h.ext, fun b' hb' => ?_, h.same, h.fresh, h.nob⟩
  · exact BoxR.keeps (G := G) (Ext.refl w G.Fr) (fun _ h => h) (fun p hp => hkeep p (by rcases hp with rfl | ⟨_, rfl⟩ <;> rfl)) (h.boxes s cs hs)
  · exact HR.keeps (G := G) (Ext.refl w G.Fr) h.heap.ids (fun i p hp => hkeep p (by rcases hp with rfl | ⟨_, rfl⟩ <;> rfl)) h.heap
  · by_cases hbb : b' = b
    · subst hbb; exact ⟨hlt, hA⟩
    · exact h.mine b' (by simpa [upd, hbb] using hb')

theorem SR.new_free (h : SR w0 F0 A n st a w G) {b : Nat} (hb : w.heap.size ≤ b) : G.ω b = .free := by
  by_cases hf : G.ω b = .free
  · exact hf
  · have := (h.mine b hf).1; omega

theorem kp_alloc (w : World) (o : Go.Obj) (D : Nat → Prop) : Kp w D (w.alloc o) := ⟨rfl, rfl, rfl, by simp, fun b hb _ => heap_old w o b hb⟩
theorem ext_of_kp {D : Nat → Prop} {F : FT} (hk : Kp w D w') (hD : ∀ b, D b → F b = 0) (hF : ∀ b, w.heap.size ≤ b → F b = 0) : Ext w F w' F :=
  ⟨fun _ => Nat.le_refl _, fun b o v ho hv => by
    have hnD : ¬ D b := fun hd => by rw [hD b hd] at ho; omega
    have hlt : b < w.heap.size := by
      rcases Nat.lt_or_ge b w.heap.size with h | h
      · exact h
      · rw [hF b h] at ho; omega
    rw [← hv]; exact World.cell?_of_block (a := ⟨b, o, none⟩) (hk.block b hlt hnD), fun _ _ h => h, fun b cs e h1 h2 => ⟨cs, by
    have hnD : ¬ D b := fun hd => by rw [hD b hd] at h1; omega
    rw [hk.block b (Array.getElem?_eq_some_iff.1 h2).1 hnD]; exact h2⟩⟩

theorem SR.alloc (h : SR w0 F0 A n st a w G) (o : Go.Obj) : SR w0 F0 A n st a (w.alloc o) G := by
  have hk := kp_alloc w o (fun _ => False)
  have := h.world (fun _ => False) (fun _ h => h.elim) hk (ext_of_kp hk (fun _ h => h.elim) h.fresh) (fun _ _ _ => rfl) (fun b hb => h.fresh b (Nat.le_trans hk.size hb)) h.heap.ids
  exact this

theorem SR.newBox (h : SR w0 F0 A n st a w G) (d : Nat) {ob : Obj} (o : Go.Obj) (e N : Nat) (r : Bool) (hob : ObjR (w.alloc o) G (.loc d) ⟨w.heap.size, N, e, r⟩ ob) :
    ∃ G', SR w0 F0 A n (st.box d ob) a (w.alloc o) G' ∧ TR (w.alloc o) G' (.slot d) (.ptr (.loc d) 0) (.pointer (some ⟨w.heap.size, 0, none⟩)) := by
  have h1 := h.alloc o
  have hfree := h.new_free (Nat.le_refl w.heap.size)
  have hsz : (w.alloc o).heap.size = w.heap.size + 1 := by simp
  have hkeep : ∀ (p : Pos), p ≠ .free → ∀ b', G.ω b' = p → b' < (w.alloc o).heap.size →
      (w.alloc o).heap[b']? = (w.alloc o).heap[b']? ∧ G.Fr b' = G.Fr b' ∧ upd G.ω w.heap.size (.box (.loc d)) b' = p := by
    intro p hp b' hb' _
    have hne : b' ≠ w.heap.size := fun e => by subst e; exact hp (hb'.symm.trans hfree)
    exact ⟨rfl, rfl, by rw [upd_ne _ _ _ _ hne]; exact hb'⟩
  let G' : Gh := ⟨G.Fr, upd G.β d (some ⟨w.heap.size, N, e, r⟩), upd G.ω w.heap.size (.box (.loc d))⟩
  have hne : ∀ p, p ≠ Pos.free → ∀ b', G.ω b' = p → b' < (w.alloc o).heap.size → (w.alloc o).heap[b']? = (w.alloc o).heap[b']? ∧ G'.Fr b' = G.Fr b' ∧ G'.ω b' = p := hkeep
  refine ⟨G', ⟨h1.size, h1.defers, fun t => ?_, fun s ob' hs => ?_, ?_, h1.kept, h1.ext, fun b' hb' => ?_, h1.same, h1.fresh, fun u hu => by
    have hud : u ≠ d := fun e => by subst e; simp [St.box, upd] at hu
    show upd _ _ _ _ = _
    rw [upd_ne _ _ _ _ hud]
    exact h1.nob u (by simpa [St.box, upd, hud] using hu)⟩, ⟨⟨w.heap.size, N, e, r⟩, by simp [G', upd], rfl⟩⟩
  · show TR _ _ (.slot t) ((st.s t).kill d) _
    have ht := h1.slots t
    cases hx : st.s t with
    | ptr k off => cases k with
      | loc s =>
        by_cases hsd : s = d
        · subst hsd; simp only [AV.kill, if_pos]; trivial
        · simp only [AV.kill, if_neg hsd]
          rw [hx] at ht
          obtain ⟨b, hb, hv⟩ := ht
          exact ⟨b, by show upd _ _ _ _ = _; rw [upd_ne _ _ _ _ hsd]; exact hb, hv⟩
      | obj i => rw [hx] at ht; exact TR.keeps (G := G) (G' := G') (Ext.refl _ G.Fr) (fun _ _ e => by cases e) (fun j => hne _ (by simp)) ht
    | _ => rw [hx] at ht; exact TR.keeps (G := G) (G' := G') (Ext.refl _ G.Fr) (fun _ _ e => by cases e) (fun j => hne _ (by simp)) ht
  · by_cases hsd : s = d
    · subst hsd
      have : ob = ob' := by simpa [St.box, upd] using hs
      subst this
      exact ⟨⟨w.heap.size, N, e, r⟩, by simp [G', Gh.at, upd], by simp [G', upd], by simp, hob.map (G' := G') (Ext.refl _ _) rfl (fun h => h) (fun c x v hx => TC.keeps (G := G) (Ext.refl _ _) (hne _ (by simp)) hx)⟩
    · have hs' : st.b s = some ob' := by simpa [St.box, upd, hsd] using hs
      refine BoxR.keeps (G := G) (G' := G') (Ext.refl _ G.Fr) (fun t ht => ?_) (fun p hp => hne p (by rcases hp with rfl | ⟨_, rfl⟩ <;> simp)) (h1.boxes s ob' hs')
      show upd _ _ _ _ = _; rw [upd_ne _ _ _ _ hsd]; exact ht
  · exact HR.keeps (G := G) (G' := G') (Ext.refl _ G.Fr) h1.heap.ids (fun i p hp => hne p (by rcases hp with rfl | ⟨_, rfl⟩ <;> simp)) h1.heap
  · by_cases hbb : b' = w.heap.size
    · subst hbb; exact ⟨by omega, .inr h.kept.size⟩
    · exact h1.mine b' (by have : G'.ω b' = G.ω b' := upd_ne _ _ _ _ hbb; rw [← this]; exact hb')

theorem SR.newBox1 (h : SR w0 F0 A n st a w G) (d : Nat) (hd : st.b d = none) {ob : Obj} (o : Go.Obj) (e N : Nat) (r : Bool) (hob : ObjR (w.alloc o) G (.loc d) ⟨w.heap.size, N, e, r⟩ ob) :
    ∃ G', SR w0 F0 A n ⟨st.s, upd st.b d (some ob), st.h⟩ a (w.alloc o) G' ∧ TR (w.alloc o) G' (.slot d) (.ptr (.loc d) 0) (.pointer (some ⟨w.heap.size, 0, none⟩)) ∧ G'.Fr = G.Fr ∧ ∀ s t, G.β s = some t → G'.β s = some t := by
  have h1 := h.alloc o
  have hβd := h.nob d hd
  have hfree := h.new_free (Nat.le_refl w.heap.size)
  have hsz : (w.alloc o).heap.size = w.heap.size + 1 := by simp
  let G' : Gh := ⟨G.Fr, upd G.β d (some ⟨w.heap.size, N, e, r⟩), upd G.ω w.heap.size (.box (.loc d))⟩
  have hne : ∀ p, p ≠ Pos.free → ∀ b', G.ω b' = p → b' < (w.alloc o).heap.size → (w.alloc o).heap[b']? = (w.alloc o).heap[b']? ∧ G'.Fr b' = G.Fr b' ∧ G'.ω b' = p := by
    intro p hp b' hb' _
    have hne : b' ≠ w.heap.size := fun e => by subst e; exact hp (hb'.symm.trans hfree)
    exact ⟨rfl, rfl, by show upd _ _ _ _ = _; rw [upd_ne _ _ _ _ hne]; exact hb'⟩
  have hβ : ∀ s t, G.β s = some t → G'.β s = some t := fun s t hs => by
    have hsd : s ≠ d := fun e => by subst e; rw [hβd] at hs; cases hs
    show upd _ _ _ _ = _; rw [upd_ne _ _ _ _ hsd]; exact hs
  refine ⟨G', ⟨h1.size, h1.defers, fun t => ?_, fun s ob' hs => ?_, ?_, h1.kept, h1.ext, fun b' hb' => ?_, h1.same, h1.fresh, fun u hu => ?_⟩, ⟨⟨w.heap.size, N, e, r⟩, by simp [G', upd], rfl⟩, rfl, hβ⟩
  · show TR _ _ (.slot t) (st.s t) _
    have ht := h1.slots t
    cases hx : st.s t with
    | ptr k off => cases k with
      | loc s =>
        rw [hx] at ht
        obtain ⟨b, hb, hv⟩ := ht
        exact ⟨b, hβ _ _ hb, hv⟩
      | obj i => rw [hx] at ht; exact TR.keeps (G := G) (G' := G') (Ext.refl _ G.Fr) (fun _ _ e => by cases e) (fun j => hne _ (by simp)) ht
    | _ => rw [hx] at ht; exact TR.keeps (G := G) (G' := G') (Ext.refl _ G.Fr) (fun _ _ e => by cases e) (fun j => hne _ (by simp)) ht
  · by_cases hsd : s = d
    · subst hsd
      have : ob = ob' := by simpa [upd] using hs
      subst this
      exact ⟨⟨w.heap.size, N, e, r⟩, by simp [G', Gh.at, upd], by simp [G', upd], by simp, hob.map (G' := G') (Ext.refl _ _) rfl (fun h => h) (fun c x v hx => TC.keeps (G := G) (Ext.refl _ _) (hne _ (by simp)) hx)⟩
    · have hs' : st.b s = some ob' := by simpa [upd, hsd] using hs
      refine BoxR.keeps (G := G) (G' := G') (Ext.refl _ G.Fr) (fun t ht => ?_) (fun p hp => hne p (by rcases hp with rfl | ⟨_, rfl⟩ <;> simp)) (h1.boxes s ob' hs')
      exact hβ _ _ ht
  · exact HR.keeps (G := G) (G' := G') (Ext.refl _ G.Fr) h1.heap.ids (fun i p hp => hne p (by rcases hp with rfl | ⟨_, rfl⟩ <;> simp)) h1.heap
  · by_cases hbb : b' = w.heap.size
    · subst hbb; exact ⟨by omega, .inr h.kept.size⟩
    · exact h1.mine b' (by have : G'.ω b' = G.ω b' := upd_ne _ _ _ _ hbb; rw [← this]; exact hb')
  · have hud : u ≠ d := fun e => by subst e; simp [upd] at hu
    show upd _ _ _ _ = _
    rw [upd_ne _ _ _ _ hud]
    exact h1.nob u (by simpa [upd, hud] using hu)

theorem SR.newObj (h : SR w0 F0 A n st a w G) {ob : Obj} (o : Go.Obj) (e N : Nat) (r : Bool) (hob : ObjR (w.alloc o) G (.obj st.h.n) ⟨w.heap.size, N, e, r⟩ ob) :
    ∃ G', SR w0 F0 A n (st.pushH ob) a (w.alloc o) G' ∧ G'.Fr.θ st.h.n = some ⟨w.heap.size, N, e, r⟩ ∧ G'.β = G.β ∧ Ext w G.Fr (w.alloc o) G'.Fr := by
  have h1 := h.alloc o
  have hfree := h.new_free (Nat.le_refl w.heap.size)
  have hsz : (w.alloc o).heap.size = w.heap.size + 1 := by simp
  have hn0 := h.heap.ids st.h.n (Nat.le_refl _)
  let th : Th := ⟨w.heap.size, N, e, r⟩
  let G' : Gh := ⟨G.Fr.name st.h.n th, G.β, upd G.ω w.heap.size (.box (.obj st.h.n))⟩
  have hE : Ext (w.alloc o) G.Fr (w.alloc o) G'.Fr := Ext.name hn0 th
  have hne : ∀ p, p ≠ Pos.free → ∀ b', G.ω b' = p → b' < (w.alloc o).heap.size → (w.alloc o).heap[b']? = (w.alloc o).heap[b']? ∧ G'.Fr b' = G.Fr b' ∧ G'.ω b' = p := by
    intro p hp b' hb' _
    have hne : b' ≠ w.heap.size := fun e => by subst e; exact hp (hb'.symm.trans hfree)
    exact ⟨rfl, rfl, by show upd _ _ _ _ = _; rw [upd_ne _ _ _ _ hne]; exact hb'⟩
  have hx0 : Ext w G.Fr (w.alloc o) G.Fr := ext_of_kp (kp_alloc w o (fun _ => False)) (fun _ h => h.elim) h.fresh
  refine ⟨G', ⟨h1.size, h1.defers, fun t => ?_, fun s ob' hs => ?_, ⟨fun i ob' hi => ?_, fun i hi => ?_, fun g xs hg => (h1.heap.glob g xs hg).ext hE⟩, h1.kept, h1.ext.trans hE, fun b' hb' => ?_, h1.same, h1.fresh, h1.nob⟩, FT.name_same _ _ _, rfl, hx0.trans hE⟩
  · exact TR.keeps (G := G) (G' := G') hE (fun _ _ _ => rfl) (fun j => hne _ (by simp)) (h1.slots t)
  · exact BoxR.keeps (G := G) (G' := G') hE (fun t ht => ht) (fun p hp => hne p (by rcases hp with rfl | ⟨_, rfl⟩ <;> simp)) (h1.boxes s ob' hs)
  · have hi' : (st.h.push ob).get i = some ob' := hi
    rw [H.get_push] at hi'
    split at hi'
    · rename_i hin
      subst hin
      injection hi' with hi'; subst hi'
      exact ⟨th, FT.name_same _ _ _, by simp [G', th, upd], by simp [th], hob.map (G' := G') hE rfl (fun h => h) (fun c x v hx => TC.keeps (G := G) hE (hne _ (by simp)) hx)⟩
    · exact BoxR.keeps (G := G) (G' := G') hE (fun t ht => hE.ids _ _ ht) (fun p hp => hne p (by rcases hp with rfl | ⟨_, rfl⟩ <;> simp)) (h1.heap.box i ob' hi')
  · have hi' : (st.h.push ob).n ≤ i := hi
    rw [H.n_push] at hi'
    show (G.Fr.name st.h.n th).θ i = none
    rw [FT.name_ne _ _ _ _ (by omega)]; exact h.heap.ids i (by omega)
  · by_cases hbb : b' = w.heap.size
    · subst hbb; exact ⟨by omega, .inr h.kept.size⟩
    · exact h1.mine b' (by have : G'.ω b' = G.ω b' := upd_ne _ _ _ _ hbb; rw [← this]; exact hb')

theorem SR.newRow (h : SR w0 F0 A n st a w G) {cs : List AV} {vs : Array Value} (e sz m : Nat) (hz : 0 < sz) (hm : cs.length = m * sz) (hl : vs.size = cs.length) (hml : m ≤ maxLen)
    (hc : ∀ c (h : c < cs.length) (h' : c < vs.size), (vs[c]).oneCell' = true ∧ CR w G.Fr cs[c] vs[c]) (q : Nat → Pos) (hq : q 0 ≠ .free) :
    ∃ G', SR w0 F0 A n st a (w.alloc (.cells vs e)) G' ∧ TR (w.alloc (.cells vs e)) G' q (.slice (.own true) e sz cs) (.slice (some ⟨w.heap.size, 0, none⟩) m m) ∧ G'.β = G.β ∧ Ext w G.Fr (w.alloc (.cells vs e)) G'.Fr := by
  have h1 := h.alloc (.cells vs e)
  have hfree := h.new_free (Nat.le_refl w.heap.size)
  have hsz : (w.alloc (.cells vs e)).heap.size = w.heap.size + 1 := by simp
  have hnew : (w.alloc (.cells vs e)).heap[w.heap.size]? = some (.cells vs e) := heap_alloc_new w _
  have h2 := h1.relabel (b := w.heap.size) (by rw [hfree]; rfl) (by omega) (.inr h.kept.size) (q 0)
  have hx : Ext w G.Fr (w.alloc (.cells vs e)) G.Fr := ext_of_kp (kp_alloc w _ (fun _ => False)) (fun _ h => h.elim) h.fresh
  refine ⟨_, h2, TR_of_TC ⟨w.heap.size, by simp [upd], m, vs.toList, ?_, by simp [Value.ownBlock], hz, by simpa using hl, fun i hi hi' => ?_, by simp only; rw [h.fresh _ (Nat.le_refl _)]; omega, fun _ => h.fresh _ (Nat.le_refl _)⟩ rfl, rfl, hx⟩
  · refine ⟨by simp only [Array.length_toList]; omega, .inr ⟨w.heap.size, m, vs, rfl, Nat.zero_le _, hnew, Nat.le_refl _, hml, by omega, ?_⟩⟩
    rw [List.take_of_length_le (by simp only [Array.length_toList]; omega)]
  · have := hc i hi (by simpa using hi')
    exact ⟨by simpa using this.1, by simpa using this.2.ext hx⟩

end Go.Proofs.YtcodfehgnjplcaaGreatDoor.Abs

/- Values put together of parts; new rows and boxes; stores. -/
namespace Go.Proofs.YtcodfehgnjplcaaGreatDoor.Abs
set_option linter.all false

variable {P : Program} {w w' : World} {G G' : Gh} {a : Act} {o : Oper}
variable {w0 : World} {F0 : FT} {A : Nat → Prop} {n : Nat} {st : St} {β : Type}

def RowR (w : World) (Fr : FT) (cs : List AV) (vs : Array Value) : Prop :=
  vs.size = cs.length ∧ ∀ c (h : c < cs.length) (h' : c < vs.size), (vs[c]).oneCell' = true ∧ CR w Fr cs[c] vs[c]

theorem RowR.ext {F F' : FT} {cs : List AV} {vs : Array Value} (h : RowR w F cs vs) (hx : Ext w F w' F') : RowR w' F' cs vs :=
  ⟨h.1, fun c hc hc' => ⟨(h.2 c hc hc').1, (h.2 c hc hc').2.ext hx⟩⟩

theorem cells_RowR {Fr : FT} {x : AV} {v : Value} (h : CR w Fr x v) : RowR w Fr x.cells v.cells := by
  cases h with
  | agg xs vs hl ho hr => exact ⟨hl, fun c hc hc' => ⟨ho c hc', hr c hc hc'⟩⟩
  | bool b => exact ⟨rfl, fun c hc hc' => by obtain rfl : c = 0 := (by simp [AV.cells] at hc; exact hc); exact ⟨rfl, .bool b⟩⟩
  | int k m => exact ⟨rfl, fun c hc hc' => by obtain rfl : c = 0 := (by simp [AV.cells] at hc; exact hc); exact ⟨rfl, .int k m⟩⟩
  | str s l h => exact ⟨rfl, fun c hc hc' => by obtain rfl : c = 0 := (by simp [AV.cells] at hc; exact hc); exact ⟨rfl, .str s l h⟩⟩
  | flt k m => exact ⟨rfl, fun c hc hc' => by obtain rfl : c = 0 := (by simp [AV.cells] at hc; exact hc); exact ⟨rfl, .flt k m⟩⟩
  | nil e sz => exact ⟨rfl, fun c hc hc' => by obtain rfl : c = 0 := (by simp [AV.cells] at hc; exact hc); exact ⟨rfl, .nil e sz⟩⟩
  | frz e sz m cap ad xs vs hs hz hl hc hp hv ho hr => exact ⟨rfl, fun c hcc hcc' => by obtain rfl : c = 0 := (by simp [AV.cells] at hcc; exact hcc); exact ⟨rfl, .frz e sz m cap ad xs vs hs hz hl hc hp hv ho hr⟩⟩
  | hdr e sz m cap ad xs hz hl hc => exact ⟨rfl, fun c hcc hcc' => by obtain rfl : c = 0 := (by simp [AV.cells] at hcc; exact hcc); exact ⟨rfl, .hdr e sz m cap ad xs hz hl hc⟩⟩
  | eptr ad xs vs hs hp hv ho hr => exact ⟨rfl, fun c hcc hcc' => by obtain rfl : c = 0 := (by simp [AV.cells] at hcc; exact hcc); exact ⟨rfl, .eptr ad xs vs hs hp hv ho hr⟩⟩
  | nilptr => exact ⟨rfl, fun c hc hc' => by obtain rfl : c = 0 := (by simp [AV.cells] at hc; exact hc); exact ⟨rfl, .nilptr⟩⟩
  | iface t x v hr => exact ⟨rfl, fun c hc hc' => by obtain rfl : c = 0 := (by simp [AV.cells] at hc; exact hc); exact ⟨rfl, .iface t x v hr⟩⟩
  | nilI => exact ⟨rfl, fun c hc hc' => by obtain rfl : c = 0 := (by simp [AV.cells] at hc; exact hc); exact ⟨rfl, .nilI⟩⟩
  | fn f => exact ⟨rfl, fun c hc hc' => by obtain rfl : c = 0 := (by simp [AV.cells] at hc; exact hc); exact ⟨rfl, .fn f⟩⟩
  | gl g => exact ⟨rfl, fun c hc hc' => by obtain rfl : c = 0 := (by simp [AV.cells] at hc; exact hc); exact ⟨rfl, .gl g⟩⟩
  | nilfn => exact ⟨rfl, fun c hc hc' => by obtain rfl : c = 0 := (by simp [AV.cells] at hc; exact hc); exact ⟨rfl, .nilfn⟩⟩
  | ref i off t ht => exact ⟨rfl, fun c hc hc' => by obtain rfl : c = 0 := (by simp [AV.cells] at hc; exact hc); exact ⟨rfl, .ref i off t ht⟩⟩
  | hsl i k e sz m cap ad t ht hz hc ha => exact ⟨rfl, fun c hcc hcc' => by obtain rfl : c = 0 := (by simp [AV.cells] at hcc; exact hcc); exact ⟨rfl, .hsl i k e sz m cap ad t ht hz hc ha⟩⟩
  | sen b off cs e hp hh => exact ⟨rfl, fun c hcc hcc' => by obtain rfl : c = 0 := (by simp [AV.cells] at hcc; exact hcc); exact ⟨rfl, .sen b off cs e hp hh⟩⟩

theorem foldl_set (off : Nat) : ∀ (l : List Value) (k : Nat) (cs : Array Value) (i : Nat),
    ((l.zipIdx k).foldl (fun cs (c, j) => cs.setIfInBounds (off + j) c) cs).size = cs.size ∧
    (off + k + l.length ≤ cs.size → ((l.zipIdx k).foldl (fun cs (c, j) => cs.setIfInBounds (off + j) c) cs)[i]? = if off + k ≤ i ∧ i < off + k + l.length then l[i - (off + k)]? else cs[i]?) := by
  intro l
  induction l with
  | nil => intro k cs i; refine ⟨rfl, fun _ => ?_⟩; simp only [List.zipIdx_nil, List.foldl_nil, List.length_nil, Nat.add_zero]; rw [if_neg (by omega)]
  | cons v l ih =>
    intro k cs i
    simp only [List.zipIdx_cons, List.foldl_cons]
    obtain ⟨h1, h2⟩ := ih (k + 1) (cs.setIfInBounds (off + k) v) i
    refine ⟨by rw [h1]; simp, fun hle => ?_⟩
    simp only [List.length_cons] at hle
    rw [h2 (by simp; omega)]
    by_cases hi : i = off + k
    · subst hi
      rw [if_neg (by omega), if_pos (by simp only [List.length_cons]; omega)]
      have : off + k < cs.size := by omega
      simp [this]
    · rw [Array.getElem?_setIfInBounds_ne (Ne.symm hi)]
      by_cases hr : off + k ≤ i ∧ i < off + k + (v :: l).length
      · simp only [List.length_cons] at hr
        rw [if_pos (by omega), if_pos (by simp only [List.length_cons]; omega)]
        rw [show i - (off + k) = (i - (off + (k + 1))) + 1 by omega]
        simp
      · simp only [List.length_cons] at hr
        rw [if_neg (by omega), if_neg (by simp only [List.length_cons]; omega)]

theorem splice_length {xs ys : List AV} {i : Nat} (h : i + ys.length ≤ xs.length) : (splice xs i ys).length = xs.length := by
  unfold splice; simp; omega
theorem splice_get {xs ys : List AV} {off : Nat} (h : off + ys.length ≤ xs.length) (i : Nat) : (splice xs off ys)[i]? = if off ≤ i ∧ i < off + ys.length then ys[i - off]? else xs[i]? := by
  unfold splice
  have hto : (xs.take off).length = off := by simp; omega
  by_cases h1 : i < off
  · rw [if_neg (by omega), List.append_assoc, List.getElem?_append_left (by rw [hto]; exact h1), List.getElem?_take_of_lt h1]
  · by_cases h2 : i < off + ys.length
    · rw [if_pos (by omega), List.getElem?_append_left (by rw [List.length_append, hto]; exact h2), List.getElem?_append_right (by rw [hto]; omega), hto]
    · rw [if_neg (by omega), List.getElem?_append_right (by rw [List.length_append, hto]; omega), List.length_append, hto, List.getElem?_drop]
      congr 1; omega

theorem RowR.splice {Fr : FT} {cs ys : List AV} {vs us : Array Value} (h : RowR w Fr cs vs) (k : RowR w Fr ys us) {off : Nat} (hle : off + ys.length ≤ cs.length) {rs : Array Value}
    (hsz : rs.size = vs.size) (hrs : ∀ i, rs[i]? = if off ≤ i ∧ i < off + us.size then us[i - off]? else vs[i]?) : RowR w Fr (splice cs off ys) rs := by
  refine ⟨by rw [hsz, h.1, splice_length hle], fun c hc hc' => ?_⟩
  have hsp := splice_get hle c
  have hr := hrs c
  rw [List.getElem?_eq_getElem hc] at hsp
  rw [Array.getElem?_eq_getElem hc'] at hr
  have hk1 := k.1
  by_cases hin : off ≤ c ∧ c < off + ys.length
  · rw [if_pos hin] at hsp; rw [if_pos (by omega)] at hr
    have hl : c - off < ys.length := by omega
    have hl' : c - off < us.size := by omega
    rw [List.getElem?_eq_getElem hl] at hsp; rw [Array.getElem?_eq_getElem hl'] at hr
    injection hsp with hsp; injection hr with hr
    rw [hsp, hr]; exact k.2 _ hl hl'
  · rw [if_neg hin] at hsp; rw [if_neg (by omega)] at hr
    have hl : c < cs.length := by rw [splice_length hle] at hc; exact hc
    have hl' : c < vs.size := by omega
    rw [List.getElem?_eq_getElem hl] at hsp; rw [Array.getElem?_eq_getElem hl'] at hr
    injection hsp with hsp; injection hr with hr
    rw [hsp, hr]; exact h.2 _ hl hl'

theorem fill_sound {place : Nat → Option (Nat × Nat × Bool)} : ∀ {parts : List (Nat × Operand)} {ps : List (Nat × Nat × AX)} {cs : List AV} {vs : Array Value} {st : St} {G : Gh} {k : List AV → St → T β} {R : β → Prop},
    pParts place parts = some ps → (fillK ps cs st k).All R → SR w0 F0 A n st a w G → RowR w G.Fr cs vs →
    ∃ cs' vs' st' G', (k cs' st').All R ∧ SR w0 F0 A n st' a w G' ∧ RowR w G'.Fr cs' vs' ∧ cs'.length = cs.length ∧ G'.β = G.β ∧ Ext w G.Fr w G'.Fr ∧ Less st st' ∧
      Instr.fill (fun i => (place i).map fun q => (q.1, q.2.1)) vs (parts.map fun (i, x) => (i, a.eval x)) = some vs'
  | [], ps, cs, vs, st, G, k, R, hp, hk, h, hr => by
    simp only [pParts, Option.some.injEq] at hp; subst hp
    exact ⟨cs, vs, st, G, hk, h, hr, rfl, rfl, Ext.refl _ _, Less.refl _, rfl⟩
  | (i, x) :: parts, ps, cs, vs, st, G, k, R, hp, hk, h, hr => by
    simp only [pParts, Option.bind_eq_some_iff, Option.map_eq_some_iff] at hp
    obtain ⟨⟨off, m, ow⟩, hpl, ax, hax, l, hl, rfl⟩ := hp
    simp only [fillK, T.All_on] at hk
    obtain ⟨cs1, hf, hk⟩ := hk
    unfold fillV at hf
    split at hf
    · rename_i hcond
      injection hf with hf; subst hf
      simp only [Bool.and_eq_true, beq_iff_eq, decide_eq_true_eq] at hcond
      obtain ⟨⟨hpl1, hlen⟩, hle⟩ := hcond
      obtain ⟨G1, g1, g2, g3, g4, g5⟩ := h.giveX hax
      have hsev : (give st ax).1.several = false := by cases hgv : (give st ax).1 <;> first | rfl | (rw [hgv] at hpl1; simp [AV.plain] at hpl1)
      have hT := g5 hsev (fun _ => .mid)
      have hno : (give st ax).1.isOwn = false := by
        cases ax with
        | t t => show (gvV (st.s t)).isOwn = false; cases st.s t <;> first | rfl | (rename_i c _ _ _; cases c <;> rfl)
        | u t => show (gvV (st.s t)).isOwn = false; cases st.s t <;> first | rfl | (rename_i c _ _ _; cases c <;> rfl)
        | f t =>
          unfold give; simp only; split
          · unfold frz; repeat (first | rfl | split)
          · cases st.s t <;> first | rfl | (rename_i c _ _ _; cases c <;> rfl)
        | m t =>
          show (pin st t).1.isOwn = false
          unfold pin; split
          · rfl
          · cases st.s t <;> first | rfl | (rename_i c _ _ _; cases c <;> rfl)
        | p t => show (hdV (st.s t)).isOwn = false; cases st.s t <;> first | rfl | (rename_i c _ _ _; cases c <;> rfl)
        | c v =>
          have := const_CR (Fr := G.Fr) (w := w) (a := a) hax
          show v.isOwn = false
          cases v <;> first | rfl | (rename_i c _ _ _; cases c <;> first | rfl | cases this)
      have hC := CR_of_TC (TC_of_TR hT hpl1) hno
      have hrow := cells_RowR hC
      have hvlen : (a.eval x).cells.size = m := by rw [hrow.1, hlen]
      obtain ⟨f1, f2⟩ := foldl_set off (a.eval x).cells.toList 0 vs 0
      have hvs : off + 0 + (a.eval x).cells.toList.length ≤ vs.size := by rw [hr.1, Array.length_toList, hvlen]; simpa using hle
      obtain ⟨cs', vs', st', G', e1, e2, e3, e4, e6, e7, e8, e5⟩ := fill_sound (vs := ((a.eval x).cells.toList.zipIdx 0).foldl (fun cs (c, j) => cs.setIfInBounds (off + j) c) vs) hl hk g1
        ((hr.ext g4).splice hrow (by rw [hlen]; exact hle) f1 (fun i => by
          have := (foldl_set off (a.eval x).cells.toList 0 vs i).2 hvs
          rw [this]; simp only [Nat.add_zero, Array.length_toList, Array.getElem?_toList]))
      refine ⟨cs', vs', st', G', e1, e2, e3, by rw [e4, splice_length (by rw [hlen]; exact hle)], e6.trans g3, g4.trans e7, (give_less _ _).trans e8, ?_⟩
      simp only [List.map_cons, Instr.fill, hpl, Option.map_some]
      have hcond2 : ¬ (((a.eval x).cells.size ≠ m) || decide (off + (a.eval x).cells.size > vs.size)) = true := by
        rw [hvlen, hr.1]; simp; omega
      rw [if_neg (by simpa using hcond2)]
      rw [← Array.foldl_toList, Array.toList_zipIdx]
      exact e5
    · cases hf

end Go.Proofs.YtcodfehgnjplcaaGreatDoor.Abs

/- The machine's runs of the operations that make or write memory. -/
namespace Go.Proofs.YtcodfehgnjplcaaGreatDoor.Abs
set_option linter.all false
set_option linter.unusedVariables false

variable {P : Program} {w w' : World} {G G' : Gh} {a : Act} {o : Oper}
variable {w0 : World} {F0 : FT} {A : Nat → Prop} {n : Nat} {st : St} {β : Type}

theorem tzero_inv {t : TypeId} {z : AV} (h : tzero P t = some z) : ∃ i v, P.info? t = some i ∧ i.zero = some v ∧ ofConst v = some z := by
  simp only [tzero, Option.bind_eq_some_iff] at h
  obtain ⟨v, ⟨i, hi, hv⟩, hz⟩ := h
  exact ⟨i, v, hi, hv, hz⟩

theorem run_newVar (t : TypeId) (v : Value) (w : World) : (newVar t v).run P w = .ok ⟨w.heap.size, 0, none⟩ (w.alloc (.cells v.cells t)) := by
  simp [newVar, newRow, World.alloc, -World.alloc_eq]

theorem runs_alloc {t : TypeId} (ho : o.op = .alloc t) {i : TypeInfo} {v : Value} (hi : P.info? t = some i) (hv : i.zero = some v) :
    Runs P o a w (.pointer (some ⟨w.heap.size, 0, none⟩)) (w.alloc (.cells v.cells t)) := by
  simp only [Runs, execOp, ho, Instr.alloc, zeroValue, typeInfo, Sem.run_bind, run_program, Result.andThen_ok, hi, Sem.run_pure, hv, run_newVar]

theorem runs_box {t : TypeId} {x : Operand} (ho : o.op = .box t x) : Runs P o a w (.pointer (some ⟨w.heap.size, 0, none⟩)) (w.alloc (.cells (a.eval x).cells t)) := by
  simp only [Runs, execOp, ho, Instr.box, Sem.run_bind, run_newVar, Result.andThen_ok, Sem.run_pure]

theorem run_places {fs : List Field} : ∀ {pl : List (Nat × Nat × Bool)}, placesOf P fs = some pl → ∀ w : World,
    (fs.mapM (fun f => do pure (f.offset, ← sizeOf f.type) : Field → Sem (Nat × Nat))).run P w = .ok (pl.map fun q => (q.1, q.2.1)) w := by
  induction fs with
  | nil => intro pl h w; simp [placesOf] at h; subst h; simp
  | cons f r ih =>
    intro pl h w
    simp only [placesOf, Option.bind_eq_some_iff, Option.map_eq_some_iff] at h
    obtain ⟨m, hm, l, hl, rfl⟩ := h
    have := ih hl w
    simp only [List.mapM_cons, Sem.run_bind, run_sizeOf' hm, Result.andThen_ok, Sem.run_pure, this]
    simp

theorem runs_build {t : TypeId} {parts : Array (Nat × Operand)} (ho : o.op = .build t parts) {i : TypeInfo} {v : Value} (hi : P.info? t = some i) (hv : i.zero = some v) {pl : List (Nat × Nat × Bool)} (hpl : tplaces P t = some pl)
    {vs' : Array Value} (hf : Instr.fill (fun i => (pl[i]?).map fun q => (q.1, q.2.1)) v.cells (parts.toList.map fun (i, x) => (i, a.eval x)) = some vs') (w : World) :
    Runs P o a w (.agg vs') w := by
  unfold tplaces at hpl
  split at hpl
  · rename_i fs hu
    have hm := run_places (P := P) hpl w
    have hm' : (fs.mapM (fun f => do pure (f.offset, ← sizeOf f.type) : Field → Sem (Nat × Nat))).run P w = .ok (pl.map fun q => (q.1, q.2.1)).toArray w := by
      rw [Array.mapM_eq_mapM_toList, Sem.run_map, hm]; rfl
    have hfun : ((pl.map fun q => (q.1, q.2.1)).toArray[·]? : Nat → Option (Nat × Nat)) = fun i => (pl[i]?).map fun q => (q.1, q.2.1) := by
      funext i; simp
    have hparts : (parts.map fun (i, x) => (i, a.eval x)).toList = parts.toList.map fun (i, x) => (i, a.eval x) := by simp
    simp only [Runs, execOp, ho, Instr.build, zeroValue, typeInfo, Sem.run_bind, run_program, Result.andThen_ok, hi, Sem.run_pure, hv, run_underlying hu, hm', hfun, hparts, hf]
  · cases hpl

theorem repCells_get {k : Nat} {z : List AV} (hz : 0 < z.length) : (repCells k z).length = k * z.length ∧ ∀ i, i < k * z.length → (repCells k z)[i]? = z[i % z.length]? := by
  induction k with
  | zero => refine ⟨by simp [repCells], fun i hi => absurd hi (by simp)⟩
  | succ k ih =>
    have hs : repCells (k + 1) z = z ++ repCells k z := by simp [repCells, List.replicate_succ]
    rw [hs]
    refine ⟨by rw [List.length_append, ih.1, Nat.succ_mul, Nat.add_comm], fun i hi => ?_⟩
    by_cases h : i < z.length
    · rw [List.getElem?_append_left h, Nat.mod_eq_of_lt h]
    · rw [List.getElem?_append_right (by omega), ih.2 _ (by rw [Nat.succ_mul] at hi; omega)]
      congr 1
      rw [Nat.mod_eq_sub_mod (a := i) (by omega)]

theorem zeros_RowR {Fr : FT} {k sz : Nat} {z : List AV} {zv : Array Value} (h : RowR w Fr z zv) (hl : z.length = sz) (hsz : 0 < sz) :
    RowR w Fr (repCells k z) ((Array.range (k * sz)).map (zv[· % zv.size]!)) := by
  obtain ⟨h1, h2⟩ := repCells_get (k := k) (z := z) (by omega)
  have hzs := h.1
  refine ⟨by simp [h1, hl], fun c hc hc' => ?_⟩
  have hck : c < k * z.length := by rw [← h1]; exact hc
  have hm : c % z.length < z.length := Nat.mod_lt _ (by omega)
  have e1 := h2 c hck
  rw [List.getElem?_eq_getElem hc, List.getElem?_eq_getElem hm] at e1
  injection e1 with e1
  have hm' : c % zv.size < zv.size := by rw [hzs]; exact hm
  have e2 : ((Array.range (k * sz)).map (zv[· % zv.size]!))[c] = zv[c % zv.size] := by simp [hm']
  rw [e1, e2]
  have := h.2 (c % z.length) hm (by omega)
  simpa [hzs] using this

theorem runs_buildSlice {t e : TypeId} {len sz by' : Nat} {parts : Array (Nat × Operand)} (ho : o.op = .buildSlice t len parts) (ht : telem P t = some (e, sz, by')) {i : TypeInfo} {v : Value} (hi : P.info? e = some i) (hv : i.zero = some v)
    (hsmall : len * sz ≤ 65536) {vs' : Array Value} (hf : Instr.fill (fun i => some (i * sz, sz)) ((Array.range (len * sz)).map (v.cells[· % v.cells.size]!)) (parts.toList.map fun (i, x) => (i, a.eval x)) = some vs') (w : World) :
    Runs P o a w (.slice (some ⟨w.heap.size, 0, none⟩) len len) (w.alloc (.cells vs' e)) := by
  obtain ⟨hu, i', z', hi', hz', hs', _, _, hpos⟩ := telem_inv ht
  rw [hi] at hi'; injection hi' with hi'; subst hi'
  rw [hv] at hz'; injection hz' with hz'; subst hz'
  subst hs'
  have hparts : (parts.map fun (i, x) => (i, a.eval x)).toList = parts.toList.map fun (i, x) => (i, a.eval x) := by simp
  by_cases h0 : len * i.size = 0
  · have hlen : len = 0 := by rcases Nat.mul_eq_zero.1 h0 with h | h; { exact h }; { omega }
    subst hlen
    have hr : (Instr.buildSlice t 0 (parts.map fun (i, x) => (i, a.eval x))).run P w = .ok (.slice (some ⟨w.heap.size, 0, none⟩) 0 0) (w.alloc (.cells vs' e)) := by
      have he : (Array.range (0 * i.size)).map (v.cells[· % v.cells.size]!) = #[] := by apply Array.eq_empty_of_size_eq_zero; simp
      rw [he] at hf
      have he2 : (Array.range (0 * i.size)).map (fun x => (#[] : Array Value)[x % (#[] : Array Value).size]!) = #[] := by apply Array.eq_empty_of_size_eq_zero; simp
      unfold Instr.buildSlice
      simp only [Sem.run_bind, run_underlying hu, Result.andThen_ok, run_sizeOf' (show tsize P e = some i.size by simp [tsize, hi])]
      rw [if_neg (by omega)]
      simp only [Sem.run_bind, Sem.run_pure, Result.andThen_ok, if_pos h0, he2, hparts, hf]
      rfl
    simp only [Runs, execOp, ho, Sem.run_bind, hr, Result.andThen_ok, Sem.run_pure]
  · have hr := run_buildSlice (P := P) w t e len (parts.map fun (i, x) => (i, a.eval x)) vs' i v hu hi hv (by omega) h0 (by rw [hparts]; exact hf)
    simp only [Runs, execOp, ho, Sem.run_bind, hr, Result.andThen_ok, Sem.run_pure]

end Go.Proofs.YtcodfehgnjplcaaGreatDoor.Abs
