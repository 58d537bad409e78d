/- How the state's relation is kept: by slots written, owned rows handed on, promises. -/
import Derived.Test.YtjlioidknhdceaaDoorA3
namespace Go.Proofs.YtjlioidknhdceaaDoor.Abs
set_option linter.all false

theorem TC_of_CR {w : World} {G : Gh} {p : Pos} {x : AV} {v : Value} (h : CR w G.Fr x v) : TC w G p x v := by
  cases x with
  | slice c e sz xs => cases c with
    | own f => cases h
    | _ => exact h
  | _ => exact h

theorem TR_of_CR {w : World} {G : Gh} {p : Nat → Pos} {x : AV} {v : Value} (h : CR w G.Fr x v) : TR w G p x v := by
  cases x with
  | ptr k off => cases k with
    | loc s => cases h
    | obj i => exact TC_of_CR (p := p 0) h
  | _ => first | exact TC_of_CR (p := p 0) h | (cases h; done) | trivial

theorem CR_of_TC {w : World} {G : Gh} {p : Pos} {x : AV} {v : Value} (h : TC w G p x v) (hx : x.isOwn = false) : CR w G.Fr x v := by
  cases x with
  | slice c e sz xs => cases c with
    | own f => simp [AV.isOwn] at hx
    | _ => exact h
  | _ => exact h

theorem TC_of_TR {w : World} {G : Gh} {p : Nat → Pos} {x : AV} {v : Value} (h : TR w G p x v) (hx : x.plain = true) : TC w G (p 0) x v := by
  cases x with
  | ptr k off => cases k <;> first | exact h | simp [AV.plain] at hx
  | _ => first | exact h | simp [AV.plain] at hx

theorem TR_of_TC {w : World} {G : Gh} {p : Nat → Pos} {x : AV} {v : Value} (h : TC w G (p 0) x v) (hx : x.plain = true) : TR w G p x v := by
  cases x with
  | ptr k off => cases k <;> first | exact h | simp [AV.plain] at hx
  | _ => first | exact h | simp [AV.plain] at hx

structure Gh.Off (G G' : Gh) (b : Nat) : Prop where
  Fr : ∀ c, c ≠ b → G'.Fr c = G.Fr c
  θ : G'.Fr.θ = G.Fr.θ
  β : G'.β = G.β
  ω : ∀ c, c ≠ b → G'.ω c = G.ω c

theorem Gh.Off.ext {w : World} {G G' : Gh} {b : Nat} (ho : Gh.Off G G' b) (hm : G.Fr b ≤ G'.Fr b) : Ext w G.Fr w G'.Fr :=
  ⟨fun c => by by_cases hc : c = b; { subst hc; exact hm }; { rw [ho.Fr c hc]; exact Nat.le_refl _ }, fun _ _ _ _ h => h, fun i t h => by rw [ho.θ]; exact h, fun _ cs _ _ h => ⟨cs, h⟩⟩

theorem OwnR.ext {w w' : World} {F F' : FT} {b : Nat} {f : Bool} {e sz : Nat} {xs : List AV} {v : Value} (h : OwnR w F b f e sz xs v)
    (hx : Ext w F w' F') (hb : w'.heap[b]? = w.heap[b]?) (hF : F' b = F b) : OwnR w' F' b f e sz xs v := by
  obtain ⟨n, vs, ho, hob, hz, hl, hc, h1, h2⟩ := h
  refine ⟨n, vs, ⟨ho.1, ?_⟩, hob, hz, hl, fun i h h' => ⟨(hc i h h').1, (hc i h h').2.ext hx⟩, by rw [hF]; exact h1, by rw [hF]; exact h2⟩
  rcases ho.2 with hn | ⟨g, cap, cur, rfl, hbg, hg, rest⟩
  · exact .inl hn
  · have : g = b := by simpa [Value.ownBlock] using hob
    subst this
    exact .inr ⟨g, cap, cur, rfl, hbg, hb.trans hg, rest⟩

theorem OwnR.lt {w : World} {F : FT} {b : Nat} {f : Bool} {e sz : Nat} {xs : List AV} {v : Value} (h : OwnR w F b f e sz xs v) : b < w.heap.size := by
  obtain ⟨n, vs, ho, hob, _⟩ := h
  exact (ho.lt b hob).2

theorem TC.turn {w : World} {G G' : Gh} {b : Nat} (ho : Gh.Off G G' b) (hx : Ext w G.Fr w G'.Fr) {p : Pos} {x : AV} {v : Value} (hp : G.ω b ≠ p)
    (h : TC w G p x v) : TC w G' p x v := by
  by_cases hown : x.isOwn = true
  · cases x with
    | slice c e sz xs => cases c with
      | own f =>
        obtain ⟨b', hb', hO⟩ := h
        have hne : b' ≠ b := fun e => hp (e ▸ hb')
        exact ⟨b', by rw [ho.ω b' hne]; exact hb', hO.ext hx rfl (ho.Fr b' hne)⟩
      | _ => simp [AV.isOwn] at hown
    | _ => simp [AV.isOwn] at hown
  · exact TC_of_CR ((CR_of_TC h (by simpa using hown)).ext hx)

theorem TR.turn {w : World} {G G' : Gh} {b : Nat} (ho : Gh.Off G G' b) (hx : Ext w G.Fr w G'.Fr) {p : Nat → Pos} {x : AV} {v : Value} (hp : ∀ j, G.ω b ≠ p j)
    (h : TR w G p x v) : TR w G' p x v := by
  cases x with
  | tup xs =>
    obtain ⟨vs, rfl, hl, hr⟩ := h
    exact ⟨vs, rfl, hl, fun j h h' => (hr j h h').turn ho hx (hp _)⟩
  | ptr k off => cases k with
    | loc s =>
      obtain ⟨b', hb', rfl⟩ := h
      exact ⟨b', by rw [ho.β]; exact hb', rfl⟩
    | obj i => exact TR_of_TC (TC.turn ho hx (hp 0) (TC_of_TR h rfl)) rfl
  | skipped => exact h
  | undef => trivial
  | _ => exact TR_of_TC (TC.turn ho hx (hp 0) (TC_of_TR h rfl)) rfl

theorem Gh.Off.at {G G' : Gh} {b : Nat} (ho : Gh.Off G G' b) (s : K) : G'.at s = G.at s := by
  cases s with
  | loc s => exact congrFun ho.β s
  | obj i => exact congrFun ho.θ i

theorem Gh.Off.box {G G' : Gh} {b : Nat} {w : World} (ho : Gh.Off G G' b) (hx : Ext w G.Fr w G'.Fr) {s : K} {ob : Obj} (hb : ∀ k, G.ω b ≠ .box k) (hc : ∀ c, G.ω b ≠ .cell s c) (h : BoxR w G s ob) : BoxR w G' s ob :=
  h.map hx (fun t ht => by rw [ho.at]; exact ht) (fun c hc' _ => by
    have : c ≠ b := fun e => hb s (e ▸ hc')
    exact ⟨rfl, fun h => by rw [ho.Fr c this]; exact h, by rw [ho.ω c this]; exact hc'⟩) (fun c x v h => h.turn ho hx (hc c))

theorem Gh.Off.heap {G G' : Gh} {b : Nat} {w : World} (ho : Gh.Off G G' b) (hx : Ext w G.Fr w G'.Fr) (hb : ∀ k, G.ω b ≠ .box k) (hc : ∀ s c, G.ω b ≠ .cell s c) {h : H} (hh : HR w G h) : HR w G' h :=
  ⟨fun i ob hi => ho.box hx hb (hc _) (hh.box i ob hi), fun i hi => by rw [ho.θ]; exact hh.ids i hi, fun g xs hg => (hh.glob g xs hg).ext hx⟩

variable {w0 : World} {F0 : FT} {A : Nat → Prop} {n : Nat}

theorem getD_set_ne' {a : Array Value} {d t : Nat} (v : Value) (h : t ≠ d) : (a.setIfInBounds d v).getD t undef = a.getD t undef := by
  simp [Array.getElem?_setIfInBounds_ne (Ne.symm h)]

theorem getD_set_eq' {a : Array Value} {d : Nat} (v : Value) (h : d < a.size) : (a.setIfInBounds d v).getD d undef = v := by
  simp [h]

theorem SR.put {st : St} {a : Act} {w : World} {G : Gh} (h : SR w0 F0 A n st a w G) {dst : Option Nat} (hd : ∀ d, dst = some d → d < n) {v : AV} {vv : Value}
    (hv : ∀ d, dst = some d → TR w G (.slot d) v vv) : SR w0 F0 A n (st.put dst v) (a.put dst vv) w G := by
  cases dst with
  | none => exact h
  | some d =>
    refine ⟨by simp [Act.put, h.size], h.defers, fun t => ?_, h.boxes, h.heap, h.kept, h.ext, h.mine, h.same, h.fresh, h.nob⟩
    by_cases ht : t = d
    · subst ht
      simp only [St.put, St.set, Act.put]
      rw [upd_same, getD_set_eq' _ (by rw [h.size]; exact hd t rfl)]
      exact hv t rfl
    · simp only [St.put, St.set, Act.put]
      rw [upd_ne _ _ _ _ ht, getD_set_ne' _ ht]
      exact h.slots t

theorem SR.turn {st : St} {a : Act} {w : World} {G G' : Gh} (h : SR w0 F0 A n st a w G) {t b : Nat} (hb : G.ω b = .slot t 0) (ho : Gh.Off G G' b)
    (hm : G.Fr b ≤ G'.Fr b) {x : AV} (hx : TR w G' (.slot t) x (a.tmps.getD t undef)) :
    SR w0 F0 A n (st.set t x) a w G' := by
  have hE : Ext w G.Fr w G'.Fr := ho.ext hm
  have hmine := h.mine b (by rw [hb]; simp)
  refine ⟨h.size, h.defers, fun u => ?_, fun s cs hs => ?_, ?_, h.kept, h.ext.trans hE, fun c hc => ?_, fun c hc hA => ?_, fun c hc => ?_, fun s hs => by rw [ho.β]; exact h.nob s hs⟩
  · by_cases hu : u = t
    · subst hu; simp only [St.set]; rw [upd_same]; exact hx
    · simp only [St.set]; rw [upd_ne _ _ _ _ hu]
      exact (h.slots u).turn ho hE (fun j e => by rw [hb] at e; injection e with e1 _; exact hu e1.symm)
  · exact ho.box hE (by rw [hb]; simp) (by rw [hb]; simp) (h.boxes s cs hs)
  · exact ho.heap hE (by rw [hb]; simp) (by rw [hb]; simp) h.heap
  · by_cases hcb : c = b
    · subst hcb; exact hmine
    · exact h.mine c (by rw [← ho.ω c hcb]; exact hc)
  · by_cases hcb : c = b
    · subst hcb; rcases hmine.2 with h' | h'
      · exact absurd h' hA
      · omega
    · rw [ho.Fr c hcb]; exact h.same c hc hA
  · by_cases hcb : c = b
    · subst hcb; exact absurd hmine.1 (by omega)
    · rw [ho.Fr c hcb]; exact h.fresh c hc

def Gh.promise (G : Gh) (b len : Nat) (q : Pos) : Gh := ⟨G.Fr.put b len, G.β, upd G.ω b q⟩
theorem Gh.promise_off (G : Gh) (b len : Nat) (q : Pos) : Gh.Off G (G.promise b len q) b :=
  ⟨fun c hc => upd_ne _ _ _ _ hc, rfl, rfl, fun c hc => upd_ne _ _ _ _ hc⟩
theorem Gh.promise_same (G : Gh) (b len : Nat) (q : Pos) : (G.promise b len q).Fr b = len := FT.put_same _ _ _

theorem OwnR.frz {w : World} {F F' : FT} {b : Nat} {f : Bool} {e sz : Nat} {xs : List AV} {v : Value} (h : OwnR w F b f e sz xs v)
    (hx : Ext w F w F') (hF : xs.length ≤ F' b) (e' : Nat) : CR w F' (.slice .frz e' sz xs) v := by
  obtain ⟨n, vs, ho, hob, hz, hl, hc, h1, h2⟩ := h
  rcases ho.2 with ⟨rfl, hn⟩ | ⟨g, cap, cur, rfl, hbg, hg, hnc, hcm, hcs, htake⟩
  · simp [Value.ownBlock] at hob
  · have hgb : g = b := by simpa [Value.ownBlock] using hob
    subst hgb
    refine .frz e' sz n cap ⟨g, 0, none⟩ xs (fun i => vs.getD i undef) (fun _ => rfl) hz (by rw [← hl]; exact ho.1) hnc (fun i hi => by simp only; omega) (fun i hi => ?_) (fun i hi => ?_) (fun i hi => ?_)
    · have hi' : i < vs.length := by omega
      have := ho.cells (g := g) (by simp [Value.ownBlock]) i (vs.getD i undef) (by simp [List.getElem?_eq_getElem hi', List.getD])
      rw [show (⟨g, 0 + i, none⟩ : Addr) = (⟨g, 0, none⟩ : Addr).add i from by unfold Addr.add; split <;> simp_all]
      exact this
    · have hi' : i < vs.length := by omega
      simpa [List.getD, List.getElem?_eq_getElem hi'] using (hc i hi hi').1
    · have hi' : i < vs.length := by omega
      have := (hc i hi hi').2.ext hx
      simpa [List.getD, List.getElem?_eq_getElem hi'] using this

theorem OwnR.hdr {w : World} {F F' : FT} {b : Nat} {f : Bool} {e sz : Nat} {xs : List AV} {v : Value} (h : OwnR w F b f e sz xs v) (e' : Nat) :
    CR w F' (.slice .hdr e' sz xs) v := by
  obtain ⟨n, vs, ho, hob, hz, hl, hc, h1, h2⟩ := h
  rcases ho.2 with ⟨rfl, hn⟩ | ⟨g, cap, cur, rfl, hbg, hg, hnc, hcm, hcs, htake⟩
  · simp [Value.ownBlock] at hob
  · exact .hdr e' sz n cap _ xs hz (by rw [← hl]; exact ho.1) hnc

theorem OwnR.shared {w : World} {F F' : FT} {b : Nat} {f : Bool} {e sz : Nat} {xs : List AV} {v : Value} (h : OwnR w F b f e sz xs v)
    (hx : Ext w F w F') (hF : F' b ≤ xs.length) : OwnR w F' b false e sz xs v := by
  obtain ⟨n, vs, ho, hob, hz, hl, hc, h1, h2⟩ := h
  exact ⟨n, vs, ho, hob, hz, hl, fun i h h' => ⟨(hc i h h').1, (hc i h h').2.ext hx⟩, hF, fun h => by cases h⟩

end Go.Proofs.YtjlioidknhdceaaDoor.Abs
