/- The operations that make memory, write it, or call; every operation at once. -/
import Derived.Test.YtdnfnobgeddbfaaA17
namespace Go.Proofs.Ytdnfnobgeddbfaa.Abs
set_option linter.all false
set_option linter.unusedVariables false

variable {P : Program} {sg : FuncId → Nat → Bool} {w w' : World} {G G' : Gh} {a : Act} {o : Oper}
variable {w0 : World} {F0 : Nat → Nat} {A : Nat → Prop} {n : Nat} {st : St} {β : Type}

/-- Blocks get their places. -/
theorem SR.relabelAll (h : SR w0 F0 A n st a w G) {ω' : Nat → Pos} (hω : ∀ b, ω' b = G.ω b ∨ ((G.ω b).loose = true ∧ b < w.heap.size ∧ (A b ∨ w0.heap.size ≤ b))) :
    SR w0 F0 A n st a w ⟨G.Fr, G.β, ω'⟩ := by
  have hkeep : ∀ (p : Pos), p.loose = false → ∀ b', G.ω b' = p → b' < w.heap.size → w.heap[b']? = w.heap[b']? ∧ G.Fr b' = G.Fr b' ∧ ω' b' = p := by
    intro p hp b' hb' _
    refine ⟨rfl, rfl, ?_⟩
    rcases hω b' with h1 | ⟨h1, _⟩
    · rw [h1]; exact hb'
    · rw [hb', hp] at h1; cases h1
  refine ⟨h.size, h.defers, fun t => TR.keeps (G := G) (Ext.refl w G.Fr) (fun _ _ _ => rfl) (fun j => hkeep _ rfl) (h.slots t), fun s cs hs => ?_, h.kept, h.ext, fun b' hb' => ?_, h.same, h.fresh⟩
  · obtain ⟨g, vs, e, h1, h2, h3, h4, h5, h6⟩ := h.boxes s cs hs
    have hlt : g < w.heap.size := (Array.getElem?_eq_some_iff.1 h4).1
    exact ⟨g, vs, e, h1, (hkeep (.box s) rfl g h2 hlt).2.2, h3, h4, h5, fun c hc hc' => ⟨(h6 c hc hc').1, TC.keeps (G := G) (Ext.refl w G.Fr) (hkeep _ rfl) (h6 c hc hc').2⟩⟩
  · rcases hω b' with h1 | ⟨_, h2, h3⟩
    · exact h.mine b' (by rw [← h1]; exact hb')
    · exact ⟨h2, h3⟩

theorem TC.pos {F : Nat → Nat} {β1 β2 : Nat → Option Nat} {ω1 ω2 : Nat → Pos} {p q : Pos} (hp : ∀ b, ω1 b = p → ω2 b = q) {x : AV} {v : Value} (h : TC w ⟨F, β1, ω1⟩ p x v) : TC w ⟨F, β2, ω2⟩ q x v := by
  by_cases hown : x.isOwn = true
  · cases x with
    | slice c e sz xs => cases c with
      | own f => obtain ⟨b, hb, hO⟩ := h; exact ⟨b, hp b hb, hO⟩
      | _ => simp [AV.isOwn] at hown
    | _ => simp [AV.isOwn] at hown
  · exact TC_of_CR (CR_of_TC (G := ⟨F, β1, ω1⟩) h (by simpa using hown))

theorem TR.pos {F : Nat → Nat} {β2 : Nat → Option Nat} {ω1 ω2 : Nat → Pos} {p q : Nat → Pos} (hp : ∀ j b, ω1 b = p j → ω2 b = q j) {x : AV} {v : Value} (h : TR w ⟨F, fun _ => none, ω1⟩ p x v) : TR w ⟨F, β2, ω2⟩ q x v := by
  cases x with
  | tup xs => obtain ⟨vs, e, hl, hc⟩ := h; exact ⟨vs, e, hl, fun j h h' => (hc j h h').pos (hp (j + 1))⟩
  | ptr s off => obtain ⟨b, hb, e⟩ := h; cases hb
  | skipped => exact h
  | undef => trivial
  | slice c e sz xs => exact TC.pos (p := p 0) (q := q 0) (hp 0) (TC_of_TR (G := ⟨F, fun _ => none, ω1⟩) h rfl)
  | _ => exact TR_of_TC (TC.pos (p := p 0) (q := q 0) (hp 0) (TC_of_TR (G := ⟨F, fun _ => none, ω1⟩) h rfl)) rfl

/-! ### Calls -/

/-- The blocks that arguments own. -/
def argOwn (ω : Nat → Pos) (b : Nat) : Prop := ∃ i, ω b = .arg i

/-- What a call leaves. -/
def CallPost (w : World) (F : Nat → Nat) (D : Nat → Prop) (r : AV) : Ending → World → Prop := fun e w' =>
  ∃ v F' ω', e = .returned v ∧ Kp w D w' ∧ Ext w F w' F' ∧ (∀ b, b < w.heap.size → ¬ D b → F' b = F b) ∧ (∀ b, w'.heap.size ≤ b → F' b = 0) ∧ TR w' ⟨F', fun _ => none, ω'⟩ .arg r v ∧
    ∀ b j, ω' b = .arg j → b < w'.heap.size ∧ (D b ∨ w.heap.size ≤ b)

def CallOk (P : Program) (cl : FuncId → List AV → Option AV) : Prop :=
  ∀ f vs r, cl f vs = some r → ∀ (w : World) (G : Gh) (args : Array Value), args.size = vs.length →
    (∀ i (h : i < vs.length) (h' : i < args.size), TC w G (.arg i) vs[i] args[i] ∧ vs[i].plain = true) → (∀ b i, G.ω b = .arg i → b < w.heap.size) → (∀ b, w.heap.size ≤ b → G.Fr b = 0) →
    (∃ v w', (callFunc f args).run P w = .ok (.value v) w' ∧ CallPost w G.Fr (argOwn G.ω) r (.returned v) w') ∨
      ∃ g, (callFunc f args).run P w = .ok (.enter g args) w ∧ Calls P g args w (CallPost w G.Fr (argOwn G.ω) r)

theorem args_sound {f : FuncId} : ∀ {l : List Operand} {ts : List TypeId} {i : Nat} {ps : List (AX × Bool)} {st : St} {G : Gh} {k : List AV → St → Option β} {r : β},
    pArgs P sg f i l ts = some ps → argsK ps st k = some r → SR w0 F0 A n st a w G →
    ∃ vs st' G', k vs st' = some r ∧ SR w0 F0 A n st' a w G' ∧ vs.length = l.length ∧ (∀ j (h : j < vs.length) (h' : j < l.length), TC w G' (.arg (i + j)) vs[j] (a.eval l[j]) ∧ vs[j].plain = true) ∧
      Carry w G w G' ∧ G'.β = G.β ∧ Ext w G.Fr w G'.Fr ∧ st'.b = st.b
  | [], ts, i, ps, st, G, k, r, hp, hk, h => by
    simp only [pArgs, Option.some.injEq] at hp; subst hp
    exact ⟨[], st, G, hk, h, rfl, fun j hj => absurd hj (by simp), Carry.refl _ _, rfl, Ext.refl _ _, rfl⟩
  | x :: l, ts, i, ps, st, G, k, r, hp, hk, h => by
    simp only [pArgs, Option.bind_eq_some_iff, Option.map_eq_some_iff] at hp
    obtain ⟨ax, hax, l', hl', rfl⟩ := hp
    cases hs : sg f i with
    | true =>
      rw [hs] at hk
      simp only [argsK, obind_eq_some, pln] at hk
      obtain ⟨u, hu, hk⟩ := hk
      split at hu
      · rename_i hpl
        obtain ⟨G1, g1, g2, g3, g4, g5⟩ := h.takeX hax (fun _ => .arg i)
        obtain ⟨vs, st', G', e1, e2, e3, e4, e5, e6, e7, e8⟩ := args_sound hl' hk g1
        refine ⟨_, st', G', e1, e2, by simp [e3], fun j hj hj' => ?_, g3.trans e5, e6.trans g4, g5.trans e7, e8.trans (take_b _ _)⟩
        cases j with
        | zero => exact ⟨e5 _ _ _ (fun t i e => by cases e) (TC_of_TR g2 hpl), hpl⟩
        | succ j => have := e4 j (by simpa using hj) (by simpa using hj'); rw [Nat.add_assoc, Nat.add_comm 1 j] at this; exact this
      · cases hu
    | false =>
      rw [hs] at hk
      simp only [argsK, obind_eq_some, pln] at hk
      obtain ⟨u, hu, hk⟩ := hk
      split at hu
      · rename_i hpl
        obtain ⟨G1, g1, g2, g3, g4, g5⟩ := h.giveX hax
        have hsev : (give st ax).1.several = false := by cases hg : (give st ax).1 <;> first | rfl | (rw [hg] at hpl; simp [AV.plain] at hpl)
        obtain ⟨vs, st', G', e1, e2, e3, e4, e5, e6, e7, e8⟩ := args_sound hl' hk g1
        refine ⟨_, st', G', e1, e2, by simp [e3], fun j hj hj' => ?_, g2.trans e5, e6.trans g3, g4.trans e7, e8.trans (give_b _ _)⟩
        cases j with
        | zero => exact ⟨e5 _ _ _ (fun t i e => by cases e) (TC_of_TR (g5 hsev (fun _ => .arg i)) hpl), hpl⟩
        | succ j => have := e4 j (by simpa using hj) (by simpa using hj'); rw [Nat.add_assoc, Nat.add_comm 1 j] at this; exact this
      · cases hu

/-- After a call. -/
theorem SR.called (h : SR w0 F0 A n st a w G) {r : AV} {e : Ending} (hp : CallPost w G.Fr (argOwn G.ω) r e w') (dst : Option Nat) :
    ∃ v G', e = .returned v ∧ SR w0 F0 A n st a w' G' ∧ TR w' G' (slotAt dst) r v ∧ Stab st.b G w st.b G' w' := by
  obtain ⟨v, F', ω', he, hk, hx, hF, hF', hT, hω⟩ := hp
  have hD : ∀ b, argOwn G.ω b → (A b ∨ w0.heap.size ≤ b) ∧ (G.ω b).loose = true := fun b ⟨i, hi⟩ => ⟨(h.mine b (by rw [hi]; simp)).2, by rw [hi]; rfl⟩
  have h1 := h.world _ hD hk hx hF hF'
  let ω2 : Nat → Pos := fun b => match ω' b with | .arg j => slotAt dst j | _ => G.ω b
  have h2 := h1.relabelAll (ω' := ω2) (fun b => by
    simp only [ω2]
    split
    · rename_i j hj
      right
      obtain ⟨k1, k2⟩ := hω b j hj
      refine ⟨?_, k1, ?_⟩
      · rcases k2 with k2 | k2
        · exact (hD b k2).2
        · rw [h.new_free k2]; rfl
      · rcases k2 with k2 | k2
        · exact (hD b k2).1
        · exact .inr (Nat.le_trans h.kept.size k2)
    · left; rfl)
  refine ⟨v, _, he, h2, hT.pos (fun j b hj => by simp only [ω2, hj]), hx, rfl, fun _ h => h, fun s cs g hs hg => ?_⟩
  obtain ⟨g', vs, e', k1, k2, k3, k4, k5, k6⟩ := h.boxes s cs hs
  rw [hg] at k1; injection k1 with k1; subst k1
  exact hk.block g (Array.getElem?_eq_some_iff.1 k4).1 (fun ⟨i, hi⟩ => by rw [k2] at hi; cases hi)

end Go.Proofs.Ytdnfnobgeddbfaa.Abs
