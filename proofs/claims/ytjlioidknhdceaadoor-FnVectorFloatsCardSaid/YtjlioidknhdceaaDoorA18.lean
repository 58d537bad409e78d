/- The operations that make memory, write it, or call; every operation at once. -/
import Derived.Test.YtjlioidknhdceaaDoorA17
namespace Go.Proofs.YtjlioidknhdceaaDoor.Abs
set_option linter.all false
set_option linter.unusedVariables false

variable {P : Program} {sg : FuncId → Nat → Nat} {hs : Nat → Nat} {w w' : World} {G G' : Gh} {a : Act} {o : Oper}
variable {w0 : World} {F0 : FT} {A : Nat → Prop} {n : Nat} {st : St} {β : Type}

theorem TC.pos {F : FT} {β1 β2 : Nat → Option Th} {ω1 ω2 : Nat → Pos} {p q : Pos} (hp : ∀ b, ω1 b = p → ω2 b = q) {x : AV} {v : Value} (h : TC w ⟨F, β1, ω1⟩ p x v) : TC w ⟨F, β2, ω2⟩ q x v := by
  by_cases hown : x.isOwn = true
  · cases x with
    | slice c e sz xs => cases c with
      | own f => obtain ⟨b, hb, hO⟩ := h; exact ⟨b, hp b hb, hO⟩
      | _ => simp [AV.isOwn] at hown
    | _ => simp [AV.isOwn] at hown
  · exact TC_of_CR (CR_of_TC (G := ⟨F, β1, ω1⟩) h (by simpa using hown))

theorem TR.pos {F : FT} {β2 : Nat → Option Th} {ω1 ω2 : Nat → Pos} {p q : Nat → Pos} (hp : ∀ j b, ω1 b = p j → ω2 b = q j) {x : AV} {v : Value} (h : TR w ⟨F, fun _ => none, ω1⟩ p x v) : TR w ⟨F, β2, ω2⟩ q x v := by
  cases x with
  | tup xs => obtain ⟨vs, e, hl, hc⟩ := h; exact ⟨vs, e, hl, fun j h h' => (hc j h h').pos (hp (j + 1))⟩
  | ptr k off => cases k with
    | loc s => obtain ⟨b, hb, e⟩ := h; cases hb
    | obj i => exact TR_of_CR (CR_of_TC (G := ⟨F, fun _ => none, ω1⟩) (TC_of_TR (G := ⟨F, fun _ => none, ω1⟩) h rfl) rfl)
  | skipped => exact h
  | undef => trivial
  | slice c e sz xs => exact TC.pos (p := p 0) (q := q 0) (hp 0) (TC_of_TR (G := ⟨F, fun _ => none, ω1⟩) h rfl)
  | _ => exact TR_of_TC (TC.pos (p := p 0) (q := q 0) (hp 0) (TC_of_TR (G := ⟨F, fun _ => none, ω1⟩) h rfl)) rfl

/-! ### Calls -/

def Pos.out : Pos → Bool
  | .arg _ => true
  | .box (.obj _) => true
  | .cell (.obj _) _ => true
  | _ => false
def outOwn (ω : Nat → Pos) (b : Nat) : Prop := (ω b).out = true

def CallPost (w : World) (F : FT) (D : Nat → Prop) (r : AV × H) : Ending → World → Prop := fun e w' =>
  ∃ v F' ω', e = .returned v ∧ Kp w D w' ∧ Ext w F w' F' ∧ (∀ b, b < w.heap.size → ¬ D b → F' b = F b) ∧ (∀ b, w'.heap.size ≤ b → F' b = 0) ∧ TR w' ⟨F', fun _ => none, ω'⟩ .arg r.1 v ∧
    HR w' ⟨F', fun _ => none, ω'⟩ r.2 ∧ ∀ b, outOwn ω' b → b < w'.heap.size ∧ (D b ∨ w.heap.size ≤ b)

def CallOk (P : Program) (cl : FuncId → List AV → H → T (AV × H)) : Prop :=
  ∀ f vs h R, (cl f vs h).All R → ∀ (w : World) (G : Gh) (args : Array Value), args.size = vs.length →
    (∀ i (h : i < vs.length) (h' : i < args.size), TC w G (.arg i) vs[i] args[i] ∧ vs[i].plain = true) → HR w G h → (∀ b, outOwn G.ω b → b < w.heap.size) → (∀ b, w.heap.size ≤ b → G.Fr b = 0) →
    (∃ v w' r, (callFunc f args).run P w = .ok (.value v) w' ∧ R r ∧ CallPost w G.Fr (outOwn G.ω) r (.returned v) w') ∨
      ∃ g, (callFunc f args).run P w = .ok (.enter g args) w ∧ Calls P g args w (fun e w' => ∃ r, R r ∧ CallPost w G.Fr (outOwn G.ω) r e w')

theorem args_sound {f : FuncId} : ∀ {l : List Operand} {ts : List TypeId} {i : Nat} {ps : List (AX × Bool)} {st : St} {G : Gh} {k : List AV → St → T β} {R : β → Prop},
    pArgs P sg f i l ts = some ps → (argsK ps st k).All R → SR w0 F0 A n st a w G →
    ∃ vs st' G', (k vs st').All R ∧ SR w0 F0 A n st' a w G' ∧ vs.length = l.length ∧ (∀ j (h : j < vs.length) (h' : j < l.length), TC w G' (.arg (i + j)) vs[j] (a.eval l[j]) ∧ vs[j].plain = true) ∧
      Carry w G w G' ∧ G'.β = G.β ∧ Ext w G.Fr w G'.Fr ∧ st'.b = st.b ∧ ((∀ q ∈ ps, q.1.isU = false) → Less st st')
  | [], ts, i, ps, st, G, k, r, hp, hk, h => by
    simp only [pArgs, Option.some.injEq] at hp; subst hp
    exact ⟨[], st, G, hk, h, rfl, fun j hj => absurd hj (by simp), Carry.refl _ _, rfl, Ext.refl _ _, rfl, fun _ => Less.refl _⟩
  | x :: l, ts, i, ps, st, G, k, r, hp, hk, h => by
    simp only [pArgs, Option.bind_eq_some_iff, Option.map_eq_some_iff] at hp
    obtain ⟨ax, hax, l', hl', rfl⟩ := hp
    cases hs : (sg f i % 2 == 1) with
    | true =>
      rw [hs] at hk
      simp only [argsK, T.All_on, pln] at hk
      obtain ⟨u, hu, hk⟩ := hk
      split at hu
      · rename_i hpl
        obtain ⟨G1, g1, g2, g3, g4, g5⟩ := h.takeO (OX.ofm hax) (fun _ => .arg i) (by simp)
        obtain ⟨vs, st', G', e1, e2, e3, e4, e5, e6, e7, e8, e9⟩ := args_sound hl' hk g1
        refine ⟨_, st', G', e1, e2, by simp [e3], fun j hj hj' => ?_, g3.trans e5, e6.trans g4, g5.trans e7, e8.trans (take_b _ _), fun hu => (take_less _ (hu _ List.mem_cons_self)).trans (e9 fun q hq => hu q (List.mem_cons_of_mem _ hq))⟩
        cases j with
        | zero => exact ⟨e5 _ _ _ (fun t i e => by cases e) (fun k e => by cases e) (TC_of_TR g2 hpl), hpl⟩
        | succ j => have := e4 j (by simpa using hj) (by simpa using hj'); rw [Nat.add_assoc, Nat.add_comm 1 j] at this; exact this
      · cases hu
    | false =>
      rw [hs] at hk
      simp only [argsK, T.All_on, pln] at hk
      obtain ⟨u, hu, hk⟩ := hk
      split at hu
      · rename_i hpl
        obtain ⟨G1, g1, g2, g3, g4, g5⟩ := h.giveO (OX.ofm hax)
        have hsev : (give st ax).1.several = false := by cases hg : (give st ax).1 <;> first | rfl | (rw [hg] at hpl; simp [AV.plain] at hpl)
        obtain ⟨vs, st', G', e1, e2, e3, e4, e5, e6, e7, e8, e9⟩ := args_sound hl' hk g1
        refine ⟨_, st', G', e1, e2, by simp [e3], fun j hj hj' => ?_, g2.trans e5, e6.trans g3, g4.trans e7, e8.trans (give_b _ _), fun hu => (give_less _ _).trans (e9 fun q hq => hu q (List.mem_cons_of_mem _ hq))⟩
        cases j with
        | zero => exact ⟨e5 _ _ _ (fun t i e => by cases e) (fun k e => by cases e) (TC_of_TR (g5 hsev (fun _ => .arg i)) hpl), hpl⟩
        | succ j => have := e4 j (by simpa using hj) (by simpa using hj'); rw [Nat.add_assoc, Nat.add_comm 1 j] at this; exact this
      · cases hu

def Gh.bare (G : Gh) : Gh := ⟨G.Fr, G.β, fun b => match G.ω b with | .arg i => .arg i | _ => .free⟩
theorem Gh.bare_arg {G : Gh} {b i : Nat} : G.bare.ω b = .arg i ↔ G.ω b = .arg i := by
  simp only [Gh.bare]
  split
  · rename_i j hj; rw [hj]
  · rename_i hne; simp; exact fun e => hne i e
theorem Gh.bare_out {G : Gh} {b : Nat} : outOwn G.bare.ω b ↔ ∃ i, G.ω b = .arg i := by
  simp only [outOwn, Gh.bare]
  split
  · rename_i j hj; simp [Pos.out, hj]
  · rename_i hne; simp [Pos.out]; exact fun i e => hne i e
theorem TC.bare {i : Nat} {x : AV} {v : Value} (h : TC w G (.arg i) x v) : TC w G.bare (.arg i) x v :=
  TC.pos (β1 := G.β) (β2 := G.β) (ω1 := G.ω) (fun b hb => Gh.bare_arg.2 hb) h
theorem HR.mask {h : H} (hh : HR w G h) : HR w G.bare h.mask :=
  ⟨fun i ob hi => absurd hi (by
    have : h.mask.get i = none := by simp [H.mask, H.get, Option.join]
    rw [this]; simp), fun i hi => hh.ids i (by simpa [H.mask, H.n] using hi), hh.glob⟩

theorem SR.called (h : SR w0 F0 A n st a w G) {r : AV × H} {e : Ending} (hp : CallPost w G.Fr (outOwn G.ω) r e w') (dst : Option Nat) :
    ∃ v G', e = .returned v ∧ SR w0 F0 A n ⟨st.s, st.b, r.2⟩ a w' G' ∧ TR w' G' (slotAt dst) r.1 v := by
  obtain ⟨v, F', ω', he, hk, hx, hF, hF', hT, hH, hω⟩ := hp
  have hDf : ∀ b, outOwn G.ω b → G.ω b ≠ .free := fun b hb e => by unfold outOwn at hb; rw [e] at hb; cases hb
  have hDA : ∀ b, outOwn G.ω b → b < w.heap.size ∧ (A b ∨ w0.heap.size ≤ b) := fun b hb => h.mine b (hDf b hb)
  let ω2 : Nat → Pos := fun b => match ω' b with | .arg j => slotAt dst j | .box (.obj i) => .box (.obj i) | .cell (.obj i) c => .cell (.obj i) c | _ => if (G.ω b).out then .free else G.ω b
  have hkeep : ∀ (p : Pos), p.out = false → p ≠ .free → ∀ b, G.ω b = p → b < w.heap.size → w'.heap[b]? = w.heap[b]? ∧ F' b = G.Fr b ∧ ω2 b = p := by
    intro p hp hpf b hb hlt
    have hnD : ¬ outOwn G.ω b := fun hd => by unfold outOwn at hd; rw [hb, hp] at hd; cases hd
    have hnO : ¬ outOwn ω' b := fun ho => by rcases (hω b ho).2 with h' | h'; { exact hnD h' }; { omega }
    refine ⟨hk.block b hlt hnD, hF b hlt hnD, ?_⟩
    simp only [ω2]
    split
    · rename_i hj; exact absurd (by unfold outOwn; rw [hj]; rfl) hnO
    · rename_i hj; exact absurd (by unfold outOwn; rw [hj]; rfl) hnO
    · rename_i hj; exact absurd (by unfold outOwn; rw [hj]; rfl) hnO
    · rw [hb, hp]; rfl
  refine ⟨v, ⟨F', G.β, ω2⟩, he, ⟨h.size, h.defers, fun t => (h.slots t).keeps hx (fun _ _ _ => rfl) (fun j => hkeep _ rfl (by simp)), fun s ob hs => ?_, ?_, ?_, h.ext.trans hx, fun b hb => ?_, fun b hb hA => ?_, hF', h.nob⟩, hT.pos (fun j b hj => by simp only [ω2, hj])⟩
  · exact (h.boxes s ob hs).keeps hx (fun _ h => h) (fun p hp => hkeep p (by rcases hp with rfl | ⟨_, rfl⟩ <;> rfl) (by rcases hp with rfl | ⟨_, rfl⟩ <;> simp))
  · refine ⟨fun i ob hi => BoxR.keeps (G := ⟨F', fun _ => none, ω'⟩) (G' := ⟨F', G.β, ω2⟩) (Ext.refl _ _) (fun t ht => ht) (fun p hp b hb _ => ⟨rfl, rfl, ?_⟩) (hH.box i ob hi), hH.ids, hH.glob⟩
    have hb' : ω' b = p := hb
    rcases hp with rfl | ⟨c, rfl⟩ <;> simp only [ω2, hb']
  · exact h.kept.trans hk (fun b hb hd => by rcases (hDA b hd).2 with h' | h'; { exact h' }; { omega })
  · have key : outOwn ω' b → b < w'.heap.size ∧ (A b ∨ w0.heap.size ≤ b) := fun ho => by
      obtain ⟨h1, h2⟩ := hω b ho
      exact ⟨h1, h2.elim (fun hd => (hDA b hd).2) (fun hd => .inr (Nat.le_trans h.kept.size hd))⟩
    simp only [ω2] at hb
    split at hb
    · rename_i hj; exact key (by unfold outOwn; rw [hj]; rfl)
    · rename_i hj; exact key (by unfold outOwn; rw [hj]; rfl)
    · rename_i hj; exact key (by unfold outOwn; rw [hj]; rfl)
    · split at hb
      · exact absurd rfl hb
      · obtain ⟨h1, h2⟩ := h.mine b hb
        exact ⟨Nat.lt_of_lt_of_le h1 hk.size, h2⟩
  · have hnD : ¬ outOwn G.ω b := fun hd => by rcases (hDA b hd).2 with h' | h'; { exact hA h' }; { omega }
    exact (hF b (Nat.lt_of_lt_of_le hb h.kept.size) hnD).trans (h.same b hb hA)

/-! ### What a call made on the heap is dropped -/
def FT.cut (F : FT) (b : Nat) : FT := ⟨F.f, fun i => if i < b then F.θ i else none⟩

theorem oldL_get {b : Nat} : ∀ {xs : List AV}, oldL b xs = true → ∀ i (h : i < xs.length), xs[i].old b = true
  | x :: xs, h, 0, _ => by simp only [oldL, Bool.and_eq_true] at h; exact h.1
  | x :: xs, h, i + 1, hi => by simp only [oldL, Bool.and_eq_true] at h; exact oldL_get h.2 i (by simpa using hi)

theorem CR.cut {w : World} {F : FT} {b : Nat} {x : AV} {v : Value} (h : CR w F x v) : x.old b = true → CR w (F.cut b) x v := by
  induction h with
  | bool b => intro _; exact .bool b
  | int k n => intro _; exact .int k n
  | str s l h => intro _; exact .str s l h
  | flt k n => intro _; exact .flt k n
  | nil e sz => intro _; exact .nil e sz
  | frz e sz n cap a xs vs hs hz hl hc hp hv ho hr ih =>
    intro h; simp only [AV.old] at h
    exact .frz e sz n cap a xs vs hs hz hl hc hp hv ho (fun i hi => ih i hi (oldL_get h i hi))
  | hdr e sz n cap a xs hz hl hc => intro _; exact .hdr e sz n cap a xs hz hl hc
  | agg xs vs hl ho hr ih => intro h; simp only [AV.old] at h; exact .agg xs vs hl ho (fun i hi hi' => ih i hi hi' (oldL_get h i hi))
  | eptr a xs vs hs hp hv ho hr ih => intro h; simp only [AV.old] at h; exact .eptr a xs vs hs hp hv ho (fun i hi => ih i hi (oldL_get h i hi))
  | nilptr => intro _; exact .nilptr
  | iface t x v hr ih => intro h; simp only [AV.old] at h; exact .iface t x v (ih h)
  | nilI => intro _; exact .nilI
  | fn f => intro _; exact .fn f
  | gl g => intro _; exact .gl g
  | nilfn => intro _; exact .nilfn
  | ref i off t ht => intro h; simp only [AV.old, decide_eq_true_eq] at h; exact .ref i off t (by simp only [FT.cut, if_pos h]; exact ht)
  | hsl i k e sz n cap a t ht hz hc ha => intro h; simp only [AV.old, decide_eq_true_eq] at h; exact .hsl i k e sz n cap a t (by simp only [FT.cut, if_pos h]; exact ht) hz hc ha
  | sen b off cs e hp hh => intro _; exact .sen b off cs e hp hh

theorem TC.cut {F : FT} {β ω} {b : Nat} {p : Pos} {x : AV} {v : Value} (h : TC w ⟨F, β, ω⟩ p x v) (ho : x.old b = true) : TC w ⟨F.cut b, β, ω⟩ p x v := by
  by_cases hown : x.isOwn = true
  · cases x with
    | slice c e sz xs => cases c with
      | own f =>
        obtain ⟨bb, hb, n, vs, h1, h2, h3, h4, h5, h6, h7⟩ := h
        simp only [AV.old] at ho
        exact ⟨bb, hb, n, vs, h1, h2, h3, h4, fun i hi hi' => ⟨(h5 i hi hi').1, (h5 i hi hi').2.cut (oldL_get ho i hi)⟩, h6, h7⟩
      | _ => simp [AV.isOwn] at hown
    | _ => simp [AV.isOwn] at hown
  · exact TC_of_CR ((CR_of_TC (G := ⟨F, β, ω⟩) h (by simpa using hown)).cut ho)

theorem TR.cut {F : FT} {ω} {b : Nat} {p : Nat → Pos} {x : AV} {v : Value} (h : TR w ⟨F, fun _ => none, ω⟩ p x v) (ho : x.old b = true) : TR w ⟨F.cut b, fun _ => none, ω⟩ p x v := by
  cases x with
  | tup xs =>
    obtain ⟨vs, e, hl, hc⟩ := h
    simp only [AV.old] at ho
    exact ⟨vs, e, hl, fun j h h' => (hc j h h').cut (oldL_get ho j h)⟩
  | ptr k off => cases k with
    | loc s => obtain ⟨b, hb, e⟩ := h; cases hb
    | obj i => exact TR_of_TC ((TC_of_TR (G := ⟨F, fun _ => none, ω⟩) h rfl).cut ho) rfl
  | skipped => exact h
  | undef => trivial
  | slice c e sz xs => exact TR_of_TC ((TC_of_TR (G := ⟨F, fun _ => none, ω⟩) h rfl).cut ho) rfl
  | _ => exact TR_of_TC ((TC_of_TR (G := ⟨F, fun _ => none, ω⟩) h rfl).cut ho) rfl

theorem noHeap_word {F : FT} {ω : Nat → Pos} {n : Nat} {r : AV × H} {u : AV} {p : Nat → Pos} {v : Value} {G : FT} (hG : ∀ i, n ≤ i → G.θ i = none) (hx : Ext w G w' F) (hu : noHeap n r = some u) (hT : TR w' ⟨F, fun _ => none, ω⟩ p r.1 v) (hH : HR w' ⟨F, fun _ => none, ω⟩ r.2) :
    ∃ F2 : FT, F2.f = F.f ∧ Ext w G w' F2 ∧ (∀ i, n ≤ i → F2.θ i = none) ∧ TR w' ⟨F2, fun _ => none, ω⟩ p u v := by
  unfold noHeap at hu
  split at hu
  · rename_i hc
    injection hu with hu; subst hu
    simp only [Bool.or_eq_true, Bool.and_eq_true, beq_iff_eq, List.isEmpty_iff] at hc
    rcases hc with ⟨h1, h2⟩ | hc
    · exact ⟨F, rfl, hx, fun i hi => hH.ids i (by simp only [H.n, h1, h2, List.length_nil]; omega), hT⟩
    · refine ⟨F.cut n, rfl, ⟨hx.more, hx.cell, fun i t ht => ?_, hx.shp⟩, fun i hi => by simp only [FT.cut]; rw [if_neg (by omega)], hT.cut hc⟩
      have : i < n := by
        rcases Nat.lt_or_ge i n with h | h
        · exact h
        · rw [hG i h] at ht; cases ht
      simp only [FT.cut, if_pos this]; exact hx.ids i t ht
  · cases hu

theorem SR.calledP (h : SR w0 F0 A n st a w G) {r : AV × H} {u : AV} {e : Ending} (hu : noHeap st.h.n r = some u) (hp : CallPost w G.Fr (outOwn G.bare.ω) r e w') (dst : Option Nat) :
    ∃ v G', e = .returned v ∧ SR w0 F0 A n st a w' G' ∧ TR w' G' (slotAt dst) u v ∧ Stab st.at G w st.at G' w' := by
  obtain ⟨v, F1, ω', he, hk, hx1, hF1, hF1', hT1, hH, hω⟩ := hp
  obtain ⟨F', hFf, hx, hids, hT⟩ := noHeap_word h.heap.ids hx1 hu hT1 hH
  have hF : ∀ b, b < w.heap.size → ¬ outOwn G.bare.ω b → F' b = G.Fr b := fun b h1 h2 => by rw [show F' b = F1 b from congrFun hFf b]; exact hF1 b h1 h2
  have hF' : ∀ b, w'.heap.size ≤ b → F' b = 0 := fun b h1 => by rw [show F' b = F1 b from congrFun hFf b]; exact hF1' b h1
  · have hDA : ∀ b, outOwn G.bare.ω b → b < w.heap.size ∧ (A b ∨ w0.heap.size ≤ b) := fun b hb => by
      obtain ⟨i, hi⟩ := Gh.bare_out.1 hb
      exact h.mine b (by rw [hi]; simp)
    let ω2 : Nat → Pos := fun b => match ω' b with | .arg j => slotAt dst j | _ => match G.ω b with | .arg _ => .free | p => p
    have hkeep : ∀ (p : Pos), (∀ i, p ≠ .arg i) → p ≠ .free → ∀ b, G.ω b = p → b < w.heap.size → w'.heap[b]? = w.heap[b]? ∧ F' b = G.Fr b ∧ ω2 b = p := by
      intro p hp hpf b hb hlt
      have hnD : ¬ outOwn G.bare.ω b := fun hd => by obtain ⟨i, hi⟩ := Gh.bare_out.1 hd; exact hp i (hb.symm.trans hi)
      have hnO : ¬ outOwn ω' b := fun ho => by rcases (hω b ho).2 with h' | h'; { exact hnD h' }; { omega }
      refine ⟨hk.block b hlt hnD, hF b hlt hnD, ?_⟩
      simp only [ω2]
      split
      · rename_i hj; exact absurd (by unfold outOwn; rw [hj]; rfl) hnO
      · split
        · rename_i hj; exact absurd (hb.symm.trans hj) (hp _)
        · exact hb
    refine ⟨v, ⟨F', G.β, ω2⟩, he, ⟨h.size, h.defers, fun t => (h.slots t).keeps hx (fun _ _ _ => rfl) (fun j => hkeep _ (by simp) (by simp)), fun s ob hs => ?_, ?_, ?_, h.ext.trans hx, fun b hb => ?_, fun b hb hA => ?_, hF', h.nob⟩, hT.pos (fun j b hj => by simp only [ω2, hj]), hx, fun _ _ h => h, fun _ h => h, fun s ob t hs hg => ?_⟩
    · exact (h.boxes s ob hs).keeps hx (fun _ h => h) (fun p hp => hkeep p (by rcases hp with rfl | ⟨_, rfl⟩ <;> simp) (by rcases hp with rfl | ⟨_, rfl⟩ <;> simp))
    · exact h.heap.keeps hx hids (fun i p hp => hkeep p (by rcases hp with rfl | ⟨_, rfl⟩ <;> simp) (by rcases hp with rfl | ⟨_, rfl⟩ <;> simp))
    · exact h.kept.trans hk (fun b hb hd => by rcases (hDA b hd).2 with h' | h'; { exact h' }; { omega })
    · simp only [ω2] at hb
      split at hb
      · rename_i hj
        obtain ⟨h1, h2⟩ := hω b (by unfold outOwn; rw [hj]; rfl)
        exact ⟨h1, h2.elim (fun hd => (hDA b hd).2) (fun hd => .inr (Nat.le_trans h.kept.size hd))⟩
      · split at hb
        · exact absurd rfl hb
        · obtain ⟨h1, h2⟩ := h.mine b hb
          exact ⟨Nat.lt_of_lt_of_le h1 hk.size, h2⟩
    · have hnD : ¬ outOwn G.bare.ω b := fun hd => by rcases (hDA b hd).2 with h' | h'; { exact hA h' }; { omega }
      exact (hF b (Nat.lt_of_lt_of_le hb h.kept.size) hnD).trans (h.same b hb hA)
    · obtain ⟨t', k1, k2, k3, _⟩ := h.at hs
      rw [hg] at k1; injection k1 with k1; subst k1
      exact hk.block t.b k3 (fun hd => by obtain ⟨i, hi⟩ := Gh.bare_out.1 hd; rw [k2] at hi; cases hi)

end Go.Proofs.YtjlioidknhdceaaDoor.Abs
