/- A3, A4, A5 -/
import Derived.Test.YtcodfehgnjplcaaGreatDoorA2
import Derived.Laws.AppendOwn
import Derived.Below
/- What an abstract value says of a machine's value in a world: contents, owned rows, boxes, the heap; how it is kept. -/
namespace Go.Proofs.YtcodfehgnjplcaaGreatDoor.Abs
set_option linter.all false

/-! ### The heap's numbers -/
theorem H.get_ge {h : H} {i : Nat} (hi : h.n ≤ i) : h.get i = none := by
  unfold H.get; unfold H.n at hi
  split
  · rfl
  · rw [List.getElem?_eq_none (by omega)]; rfl
theorem H.get_lt {h : H} {i : Nat} {o : Obj} (hi : h.get i = some o) : h.base ≤ i ∧ i < h.n := by
  rcases Nat.lt_or_ge i h.n with h1 | h1
  · refine ⟨?_, h1⟩
    unfold H.get at hi
    split at hi
    · cases hi
    · omega
  · rw [H.get_ge h1] at hi; cases hi
theorem H.n_push (h : H) (o : Obj) : (h.push o).n = h.n + 1 := by simp [H.push, H.n]; omega
theorem H.n_set (h : H) (i : Nat) (o : Obj) : (h.set i o).n = h.n := by unfold H.set; split <;> simp [H.n]
theorem H.n_del (h : H) (i : Nat) : (h.del i).n = h.n := by unfold H.del; split <;> simp [H.n]
theorem H.Γ_push (h : H) (o : Obj) : (h.push o).Γ = h.Γ := rfl
theorem H.Γ_set (h : H) (i : Nat) (o : Obj) : (h.set i o).Γ = h.Γ := by unfold H.set; split <;> rfl
theorem H.Γ_del (h : H) (i : Nat) : (h.del i).Γ = h.Γ := by unfold H.del; split <;> rfl
theorem H.get_push (h : H) (o : Obj) (i : Nat) : (h.push o).get i = if i = h.n then some o else h.get i := by
  unfold H.get H.push H.n
  by_cases h1 : i < h.base
  · rw [if_pos h1, if_neg (by omega), if_pos h1]
  · simp only [if_neg h1]
    by_cases h2 : i = h.base + h.l.length
    · rw [if_pos h2, List.getElem?_append_right (by omega), show i - h.base - h.l.length = 0 by omega]; rfl
    · rw [if_neg h2]
      by_cases h3 : i - h.base < h.l.length
      · rw [List.getElem?_append_left h3]
      · rw [List.getElem?_append_right (by omega), List.getElem?_eq_none (by simp; omega), List.getElem?_eq_none (by omega)]
theorem H.get_set {h : H} {i : Nat} {x : Obj} (hi : h.get i = some x) (o : Obj) (j : Nat) : (h.set i o).get j = if j = i then some o else h.get j := by
  obtain ⟨h1, h2⟩ := H.get_lt hi
  unfold H.set
  rw [if_neg (by omega)]
  unfold H.get
  unfold H.n at h2
  by_cases h3 : j < h.base
  · rw [if_pos h3, if_neg (by omega), if_pos h3]
  · simp only [if_neg h3]
    by_cases h4 : j = i
    · subst h4; rw [if_pos rfl, List.getElem?_set_self (by omega)]; rfl
    · rw [if_neg h4, List.getElem?_set_ne (by omega)]
theorem H.get_del (h : H) (i j : Nat) : (h.del i).get j = if j = i then none else h.get j := by
  unfold H.del
  by_cases h1 : i < h.base
  · rw [if_pos h1]
    by_cases h2 : j = i
    · subst h2; rw [if_pos rfl]; unfold H.get; rw [if_pos h1]
    · rw [if_neg h2]
  · rw [if_neg h1]
    unfold H.get
    by_cases h3 : j < h.base
    · rw [if_pos h3, if_pos h3]; split <;> rfl
    · simp only [if_neg h3]
      by_cases h4 : j = i
      · subst h4; rw [if_pos rfl]
        by_cases h5 : j - h.base < h.l.length
        · rw [List.getElem?_set_self h5]; rfl
        · rw [List.getElem?_eq_none (by simp; omega)]; rfl
      · rw [if_neg h4, List.getElem?_set_ne (by omega)]

structure Th where
  b : Nat
  N : Nat
  e : Nat
  r : Bool
  deriving DecidableEq

structure FT where
  f : Nat → Nat
  θ : Nat → Option Th

instance : CoeFun FT (fun _ => Nat → Nat) := ⟨FT.f⟩

def FT.put (F : FT) (b n : Nat) : FT := ⟨upd F.f b n, F.θ⟩
theorem FT.put_same (F : FT) (b n : Nat) : (F.put b n) b = n := upd_same _ _ _
theorem FT.put_ne (F : FT) (b n c : Nat) (h : c ≠ b) : (F.put b n) c = F c := upd_ne _ _ _ _ h
def FT.name (F : FT) (i : Nat) (t : Th) : FT := ⟨F.f, upd F.θ i (some t)⟩

inductive CR (w : World) (Fr : FT) : AV → Value → Prop
  | bool (b : Bool) : CR w Fr (.bool b) (.bool b)
  | int (k : IntKind) (n : Int) : CR w Fr (.int k n) (.int k n)
  | str (s : ByteArray) (l : List UInt8) (h : s.data.toList = l) : CR w Fr (.str l) (.string s)
  | flt (k : FloatKind) (n : Nat) : CR w Fr (.flt k n) (.float k n)
  | nil (e sz : Nat) : CR w Fr (.slice .nil e sz []) (.slice none 0 0)
  | frz (e sz n cap : Nat) (a : Addr) (xs : List AV) (vs : Nat → Value) (hs : 0 < xs.length → a.spot = none) (hz : 0 < sz) (hl : xs.length = n * sz) (hc : n ≤ cap)
      (hp : ∀ i, i < xs.length → a.off + i < Fr a.block)
      (hv : ∀ i, i < xs.length → w.cell? ⟨a.block, a.off + i, none⟩ = some (vs i)) (ho : ∀ i, i < xs.length → (vs i).oneCell' = true)
      (hr : ∀ i (h : i < xs.length), CR w Fr xs[i] (vs i)) : CR w Fr (.slice .frz e sz xs) (.slice (some a) n cap)
  | hdr (e sz n cap : Nat) (a : Addr) (xs : List AV) (hz : 0 < sz) (hl : xs.length = n * sz) (hc : n ≤ cap) : CR w Fr (.slice .hdr e sz xs) (.slice (some a) n cap)
  | agg (xs : List AV) (vs : Array Value) (hl : vs.size = xs.length) (ho : ∀ i (h : i < vs.size), (vs[i]).oneCell' = true)
      (hr : ∀ i (h : i < xs.length) (h' : i < vs.size), CR w Fr xs[i] vs[i]) : CR w Fr (.agg xs) (.agg vs)
  | eptr (a : Addr) (xs : List AV) (vs : Nat → Value) (hs : a.spot = none) (hp : ∀ i, i < xs.length → a.off + i < Fr a.block)
      (hv : ∀ i, i < xs.length → w.cell? ⟨a.block, a.off + i, none⟩ = some (vs i)) (ho : ∀ i, i < xs.length → (vs i).oneCell' = true)
      (hr : ∀ i (h : i < xs.length), CR w Fr xs[i] (vs i)) : CR w Fr (.eptr xs) (.pointer (some a))
  | nilptr : CR w Fr .nilptr (.pointer none)
  | iface (t : TypeId) (x : AV) (v : Value) (hr : CR w Fr x v) : CR w Fr (.iface t x) (.iface t v)
  | nilI : CR w Fr .nilI .nilIface
  | fn (f : FuncId) : CR w Fr (.fn f) (.func (.func f) #[] #[])
  | gl (g : Nat) : CR w Fr (.gl g) (.pointer (some ⟨g, 0, none⟩))
  | nilfn : CR w Fr .nilfn .nilFunc
  | ref (i off : Nat) (t : Th) (ht : Fr.θ i = some t) : CR w Fr (.ptr (.obj i) off) (.pointer (some ⟨t.b, off, none⟩))
  | hsl (i k e sz n cap : Nat) (a : Addr) (t : Th) (ht : Fr.θ i = some t) (hz : 0 < sz) (hc : n ≤ cap)
      (ha : k = 0 ∨ 0 < n → a = ⟨t.b, k, none⟩ ∧ (t.r = true → k + cap * sz = t.N)) : CR w Fr (.hsl i k e sz n) (.slice (some a) n cap)
  | sen (b off : Nat) (cs : Array Value) (e : TypeId) (hp : 0 < Fr b) (hh : w.heap[b]? = some (.cells cs e (0, 0))) : CR w Fr (.sen b off) (.pointer (some ⟨b, off, none⟩))

structure Ext (w : World) (Fr : FT) (w' : World) (Fr' : FT) : Prop where
  more : ∀ b, Fr b ≤ Fr' b
  cell : ∀ b o v, o < Fr b → w.cell? ⟨b, o, none⟩ = some v → w'.cell? ⟨b, o, none⟩ = some v
  ids : ∀ i t, Fr.θ i = some t → Fr'.θ i = some t
  shp : ∀ b cs e, 0 < Fr b → w.heap[b]? = some (.cells cs e (0, 0)) → ∃ cs', w'.heap[b]? = some (.cells cs' e (0, 0))

theorem Ext.refl (w : World) (Fr : FT) : Ext w Fr w Fr := ⟨fun _ => Nat.le_refl _, fun _ _ _ _ h => h, fun _ _ h => h, fun _ cs _ _ h => ⟨cs, h⟩⟩
theorem Ext.trans {w w1 w2 : World} {F F1 F2 : FT} (h : Ext w F w1 F1) (k : Ext w1 F1 w2 F2) : Ext w F w2 F2 :=
  ⟨fun b => Nat.le_trans (h.more b) (k.more b), fun b o v ho hv => k.cell b o v (Nat.lt_of_lt_of_le ho (h.more b)) (h.cell b o v ho hv), fun i t h1 => k.ids i t (h.ids i t h1),
    fun b cs e h1 h2 => by obtain ⟨cs', h3⟩ := h.shp b cs e h1 h2; exact k.shp b cs' e (Nat.lt_of_lt_of_le h1 (h.more b)) h3⟩

theorem CR.ext {w w' : World} {Fr Fr' : FT} (hx : Ext w Fr w' Fr') {x : AV} {v : Value} (h : CR w Fr x v) : CR w' Fr' x v := by
  induction h with
  | bool b => exact .bool b
  | int k n => exact .int k n
  | str s l h => exact .str s l h
  | flt k n => exact .flt k n
  | nil e sz => exact .nil e sz
  | frz e sz n cap a xs vs hs hz hl hc hp hv ho hr ih =>
    exact .frz e sz n cap a xs vs hs hz hl hc (fun i hi => Nat.lt_of_lt_of_le (hp i hi) (hx.more _)) (fun i hi => hx.cell _ _ _ (hp i hi) (hv i hi)) ho ih
  | hdr e sz n cap a xs hz hl hc => exact .hdr e sz n cap a xs hz hl hc
  | agg xs vs hl ho hr ih => exact .agg xs vs hl ho ih
  | eptr a xs vs hs hp hv ho hr ih => exact .eptr a xs vs hs (fun i hi => Nat.lt_of_lt_of_le (hp i hi) (hx.more _)) (fun i hi => hx.cell _ _ _ (hp i hi) (hv i hi)) ho ih
  | nilptr => exact .nilptr
  | iface t x v hr ih => exact .iface t x v ih
  | nilI => exact .nilI
  | fn f => exact .fn f
  | gl g => exact .gl g
  | nilfn => exact .nilfn
  | ref i off t ht => exact .ref i off t (hx.ids _ _ ht)
  | hsl i k e sz n cap a t ht hz hc ha => exact .hsl i k e sz n cap a t (hx.ids _ _ ht) hz hc ha
  | sen b off cs e hp hh =>
    obtain ⟨cs', h⟩ := hx.shp b cs e hp hh
    exact .sen b off cs' e (Nat.lt_of_lt_of_le hp (hx.more _)) h

def OwnR (w : World) (Fr : FT) (b : Nat) (f : Bool) (e sz : Nat) (xs : List AV) (v : Value) : Prop :=
  ∃ n vs, w.ownsRow 0 e sz v n vs ∧ v.ownBlock = some b ∧ 0 < sz ∧ vs.length = xs.length ∧
    (∀ i (h : i < xs.length) (h' : i < vs.length), (vs[i]).oneCell' = true ∧ CR w Fr xs[i] vs[i]) ∧ Fr b ≤ xs.length ∧ (f = true → Fr b = 0)

inductive Pos where
  | free
  | slot (t j : Nat)
  | cell (s : K) (c : Nat)
  | box (s : K)
  | arg (i : Nat)
  | mid
  deriving DecidableEq

structure Gh where
  Fr : FT
  β : Nat → Option Th
  ω : Nat → Pos

def Gh.at (G : Gh) : K → Option Th
  | .loc s => G.β s
  | .obj i => G.Fr.θ i

def TC (w : World) (G : Gh) (p : Pos) : AV → Value → Prop
  | .slice (.own f) e sz xs, v => ∃ b, G.ω b = p ∧ OwnR w G.Fr b f e sz xs v
  | x, v => CR w G.Fr x v

def TR (w : World) (G : Gh) (p : Nat → Pos) : AV → Value → Prop
  | .tup xs, v => ∃ vs : Array Value, v = .tuple vs ∧ vs.size = xs.length ∧ ∀ j (h : j < xs.length) (h' : j < vs.size), TC w G (p (j + 1)) xs[j] vs[j]
  | .ptr (.loc s) off, v => ∃ t, G.β s = some t ∧ v = .pointer (some ⟨t.b, off, none⟩)
  | .skipped, v => v = undef
  | .undef, _ => True
  | x, v => TC w G (p 0) x v

structure Kp (w0 : World) (A : Nat → Prop) (w : World) : Prop where
  os : w.os = w0.os
  tape : w.tape = w0.tape
  output : w.output = w0.output
  size : w0.heap.size ≤ w.heap.size
  block : ∀ b, b < w0.heap.size → ¬ A b → w.heap[b]? = w0.heap[b]?

theorem Kp.refl (w : World) (A : Nat → Prop) : Kp w A w := ⟨rfl, rfl, rfl, Nat.le_refl _, fun _ _ _ => rfl⟩

def ObjR (w : World) (G : Gh) (s : K) (t : Th) : Obj → Prop
  | .cells cs => G.Fr t.b = 0 ∧ t.r = false ∧ ∃ vs, w.heap[t.b]? = some (.cells vs t.e (0, 0)) ∧ vs.size = cs.length ∧
      ∀ c (h : c < cs.length) (h' : c < vs.size), (vs[c]).oneCell' = true ∧ TC w G (.cell s c) cs[c] vs[c]
  | .row e sz cp cs => G.Fr t.b = 0 ∧ t.r = true ∧ t.e = e ∧ 0 < sz ∧ ((∃ cap, t.N = cap * sz ∧ cap ≤ maxLen) ∧ ∀ N, cp = some N → t.N = N) ∧ cs.length ≤ t.N ∧ (∃ m, cs.length = m * sz) ∧
      ∃ vs, w.heap[t.b]? = some (.cells vs t.e (0, 0)) ∧ vs.size = t.N ∧ ∀ c (h : c < cs.length) (h' : c < vs.size), (vs[c]).oneCell' = true ∧ CR w G.Fr cs[c] vs[c]
  | .ro cs => CR w G.Fr (.eptr cs) (.pointer (some ⟨t.b, 0, none⟩))
  | .iter s pos => G.Fr t.b = 0 ∧ ∃ s', w.heap[t.b]? = some (.stringIter s' pos) ∧ s'.data.toList = s

def BoxR (w : World) (G : Gh) (s : K) (ob : Obj) : Prop := ∃ t, G.at s = some t ∧ G.ω t.b = .box s ∧ t.b < w.heap.size ∧ ObjR w G s t ob

def BR (w : World) (G : Gh) (b : Nat → Option Obj) : Prop := ∀ s ob, b s = some ob → BoxR w G (.loc s) ob

structure HR (w : World) (G : Gh) (h : H) : Prop where
  box : ∀ i ob, h.get i = some ob → BoxR w G (.obj i) ob
  ids : ∀ i, h.n ≤ i → G.Fr.θ i = none
  glob : ∀ g xs, h.Γ g = some xs → CR w G.Fr (.eptr xs) (.pointer (some ⟨g, 0, none⟩))

structure SR (w0 : World) (F0 : FT) (A : Nat → Prop) (n : Nat) (st : St) (a : Act) (w : World) (G : Gh) : Prop where
  size : a.tmps.size = n
  defers : a.defers = []
  slots : ∀ t, TR w G (.slot t) (st.s t) (a.tmps.getD t undef)
  boxes : BR w G st.b
  heap : HR w G st.h
  kept : Kp w0 A w
  ext : Ext w0 F0 w G.Fr
  mine : ∀ b, G.ω b ≠ .free → b < w.heap.size ∧ (A b ∨ w0.heap.size ≤ b)
  same : ∀ b, b < w0.heap.size → ¬ A b → G.Fr b = F0 b
  fresh : ∀ b, w.heap.size ≤ b → G.Fr b = 0
  nob : ∀ s, st.b s = none → G.β s = none

theorem SR.at {w0 : World} {F0 : FT} {A : Nat → Prop} {n : Nat} {st : St} {a : Act} {w : World} {G : Gh} (h : SR w0 F0 A n st a w G) {s : K} {ob : Obj} (hs : st.at s = some ob) : BoxR w G s ob := by
  cases s with
  | loc t => exact h.boxes t ob hs
  | obj i => exact h.heap.box i ob hs

theorem ObjR.map {w w' : World} {G G' : Gh} {s : K} {t : Th} {ob : Obj} (h : ObjR w G s t ob) (hx : Ext w G.Fr w' G'.Fr) (hb : w'.heap[t.b]? = w.heap[t.b]?) (hf : G.Fr t.b = 0 → G'.Fr t.b = 0)
    (hc : ∀ c x v, TC w G (.cell s c) x v → TC w' G' (.cell s c) x v) : ObjR w' G' s t ob := by
  cases ob with
  | cells cs =>
    obtain ⟨h1, h2, vs, h3, h4, h5⟩ := h
    exact ⟨hf h1, h2, vs, by rw [hb]; exact h3, h4, fun c hc1 hc2 => ⟨(h5 c hc1 hc2).1, hc _ _ _ (h5 c hc1 hc2).2⟩⟩
  | row e sz cp cs =>
    obtain ⟨h1, h2, h3, h4, h5, h6, h6', vs, h7, h8, h9⟩ := h
    exact ⟨hf h1, h2, h3, h4, h5, h6, h6', vs, by rw [hb]; exact h7, h8, fun c hc1 hc2 => ⟨(h9 c hc1 hc2).1, (h9 c hc1 hc2).2.ext hx⟩⟩
  | ro cs => exact CR.ext hx h
  | iter s pos =>
    obtain ⟨h1, s', h2, h3⟩ := h
    exact ⟨hf h1, s', by rw [hb]; exact h2, h3⟩

theorem BoxR.map {w w' : World} {G G' : Gh} {s : K} {ob : Obj} (h : BoxR w G s ob) (hx : Ext w G.Fr w' G'.Fr) (hβ : ∀ t, G.at s = some t → G'.at s = some t)
    (hk : ∀ b, G.ω b = .box s → b < w.heap.size → w'.heap[b]? = w.heap[b]? ∧ (G.Fr b = 0 → G'.Fr b = 0) ∧ G'.ω b = .box s)
    (hc : ∀ c x v, TC w G (.cell s c) x v → TC w' G' (.cell s c) x v) : BoxR w' G' s ob := by
  obtain ⟨t, h1, h2, hlt, h3⟩ := h
  obtain ⟨k1, k2, k3⟩ := hk t.b h2 hlt
  refine ⟨t, hβ t h1, k3, ?_, h3.map hx k1 k2 hc⟩
  rw [Array.getElem?_eq_getElem hlt] at k1
  exact (Array.getElem?_eq_some_iff.1 k1).1

end Go.Proofs.YtcodfehgnjplcaaGreatDoor.Abs

/- How the state's relation is kept: by slots written, owned rows handed on, promises. -/
namespace Go.Proofs.YtcodfehgnjplcaaGreatDoor.Abs
set_option linter.all false

theorem TC_of_CR {w : World} {G : Gh} {p : Pos} {x : AV} {v : Value} (h : CR w G.Fr x v) : TC w G p x v := by
  cases x with
  | slice c e sz xs => cases c with
    | own f => cases h
    | _ => exact h
  | _ => exact h

theorem TR_of_CR {w : World} {G : Gh} {p : Nat → Pos} {x : AV} {v : Value} (h : CR w G.Fr x v) : TR w G p x v := by
  cases x with
  | ptr k off => cases k with
    | loc s => cases h
    | obj i => exact TC_of_CR (p := p 0) h
  | _ => first | exact TC_of_CR (p := p 0) h | (cases h; done) | trivial

theorem CR_of_TC {w : World} {G : Gh} {p : Pos} {x : AV} {v : Value} (h : TC w G p x v) (hx : x.isOwn = false) : CR w G.Fr x v := by
  cases x with
  | slice c e sz xs => cases c with
    | own f => simp [AV.isOwn] at hx
    | _ => exact h
  | _ => exact h

theorem TC_of_TR {w : World} {G : Gh} {p : Nat → Pos} {x : AV} {v : Value} (h : TR w G p x v) (hx : x.plain = true) : TC w G (p 0) x v := by
  cases x with
  | ptr k off => cases k <;> first | exact h | simp [AV.plain] at hx
  | _ => first | exact h | simp [AV.plain] at hx

theorem TR_of_TC {w : World} {G : Gh} {p : Nat → Pos} {x : AV} {v : Value} (h : TC w G (p 0) x v) (hx : x.plain = true) : TR w G p x v := by
  cases x with
  | ptr k off => cases k <;> first | exact h | simp [AV.plain] at hx
  | _ => first | exact h | simp [AV.plain] at hx

structure Gh.Off (G G' : Gh) (b : Nat) : Prop where
  Fr : ∀ c, c ≠ b → G'.Fr c = G.Fr c
  θ : G'.Fr.θ = G.Fr.θ
  β : G'.β = G.β
  ω : ∀ c, c ≠ b → G'.ω c = G.ω c

theorem Gh.Off.ext {w : World} {G G' : Gh} {b : Nat} (ho : Gh.Off G G' b) (hm : G.Fr b ≤ G'.Fr b) : Ext w G.Fr w G'.Fr :=
  ⟨fun c => by by_cases hc : c = b; { subst hc; exact hm }; { rw [ho.Fr c hc]; exact Nat.le_refl _ }, fun _ _ _ _ h => h, fun i t h => by rw [ho.θ]; exact h, fun _ cs _ _ h => ⟨cs, h⟩⟩

theorem OwnR.ext {w w' : World} {F F' : FT} {b : Nat} {f : Bool} {e sz : Nat} {xs : List AV} {v : Value} (h : OwnR w F b f e sz xs v)
    (hx : Ext w F w' F') (hb : w'.heap[b]? = w.heap[b]?) (hF : F' b = F b) : OwnR w' F' b f e sz xs v := by
  obtain ⟨n, vs, ho, hob, hz, hl, hc, h1, h2⟩ := h
  refine ⟨n, vs, ⟨ho.1, ?_⟩, hob, hz, hl, fun i h h' => ⟨(hc i h h').1, (hc i h h').2.ext hx⟩, by rw [hF]; exact h1, by rw [hF]; exact h2⟩
  rcases ho.2 with hn | ⟨g, cap, cur, rfl, hbg, hg, rest⟩
  · exact .inl hn
  · have : g = b := by simpa [Value.ownBlock] using hob
    subst this
    exact .inr ⟨g, cap, cur, rfl, hbg, hb.trans hg, rest⟩

theorem OwnR.lt {w : World} {F : FT} {b : Nat} {f : Bool} {e sz : Nat} {xs : List AV} {v : Value} (h : OwnR w F b f e sz xs v) : b < w.heap.size := by
  obtain ⟨n, vs, ho, hob, _⟩ := h
  exact (ho.lt b hob).2

theorem TC.turn {w : World} {G G' : Gh} {b : Nat} (ho : Gh.Off G G' b) (hx : Ext w G.Fr w G'.Fr) {p : Pos} {x : AV} {v : Value} (hp : G.ω b ≠ p)
    (h : TC w G p x v) : TC w G' p x v := by
  by_cases hown : x.isOwn = true
  · cases x with
    | slice c e sz xs => cases c with
      | own f =>
        obtain ⟨b', hb', hO⟩ := h
        have hne : b' ≠ b := fun e => hp (e ▸ hb')
        exact ⟨b', by rw [ho.ω b' hne]; exact hb', hO.ext hx rfl (ho.Fr b' hne)⟩
      | _ => simp [AV.isOwn] at hown
    | _ => simp [AV.isOwn] at hown
  · exact TC_of_CR ((CR_of_TC h (by simpa using hown)).ext hx)

theorem TR.turn {w : World} {G G' : Gh} {b : Nat} (ho : Gh.Off G G' b) (hx : Ext w G.Fr w G'.Fr) {p : Nat → Pos} {x : AV} {v : Value} (hp : ∀ j, G.ω b ≠ p j)
    (h : TR w G p x v) : TR w G' p x v := by
  cases x with
  | tup xs =>
    obtain ⟨vs, rfl, hl, hr⟩ := h
    exact ⟨vs, rfl, hl, fun j h h' => (hr j h h').turn ho hx (hp _)⟩
  | ptr k off => cases k with
    | loc s =>
      obtain ⟨b', hb', rfl⟩ := h
      exact ⟨b', by rw [ho.β]; exact hb', rfl⟩
    | obj i => exact TR_of_TC (TC.turn ho hx (hp 0) (TC_of_TR h rfl)) rfl
  | skipped => exact h
  | undef => trivial
  | _ => exact TR_of_TC (TC.turn ho hx (hp 0) (TC_of_TR h rfl)) rfl

theorem Gh.Off.at {G G' : Gh} {b : Nat} (ho : Gh.Off G G' b) (s : K) : G'.at s = G.at s := by
  cases s with
  | loc s => exact congrFun ho.β s
  | obj i => exact congrFun ho.θ i

theorem Gh.Off.box {G G' : Gh} {b : Nat} {w : World} (ho : Gh.Off G G' b) (hx : Ext w G.Fr w G'.Fr) {s : K} {ob : Obj} (hb : ∀ k, G.ω b ≠ .box k) (hc : ∀ c, G.ω b ≠ .cell s c) (h : BoxR w G s ob) : BoxR w G' s ob :=
  h.map hx (fun t ht => by rw [ho.at]; exact ht) (fun c hc' _ => by
    have : c ≠ b := fun e => hb s (e ▸ hc')
    exact ⟨rfl, fun h => by rw [ho.Fr c this]; exact h, by rw [ho.ω c this]; exact hc'⟩) (fun c x v h => h.turn ho hx (hc c))

theorem Gh.Off.heap {G G' : Gh} {b : Nat} {w : World} (ho : Gh.Off G G' b) (hx : Ext w G.Fr w G'.Fr) (hb : ∀ k, G.ω b ≠ .box k) (hc : ∀ s c, G.ω b ≠ .cell s c) {h : H} (hh : HR w G h) : HR w G' h :=
  ⟨fun i ob hi => ho.box hx hb (hc _) (hh.box i ob hi), fun i hi => by rw [ho.θ]; exact hh.ids i hi, fun g xs hg => (hh.glob g xs hg).ext hx⟩

theorem upd_apply {α : Type} (s : Nat → α) (i : Nat) (v : α) (j : Nat) : upd s i v j = if j = i then v else s j := rfl

variable {w0 : World} {F0 : FT} {A : Nat → Prop} {n : Nat}

theorem getD_set_ne' {a : Array Value} {d t : Nat} (v : Value) (h : t ≠ d) : (a.setIfInBounds d v).getD t undef = a.getD t undef := by
  simp [Array.getElem?_setIfInBounds_ne (Ne.symm h)]

theorem getD_set_eq' {a : Array Value} {d : Nat} (v : Value) (h : d < a.size) : (a.setIfInBounds d v).getD d undef = v := by
  simp [h]

theorem SR.put {st : St} {a : Act} {w : World} {G : Gh} (h : SR w0 F0 A n st a w G) {dst : Option Nat} (hd : ∀ d, dst = some d → d < n) {v : AV} {vv : Value}
    (hv : ∀ d, dst = some d → TR w G (.slot d) v vv) : SR w0 F0 A n (st.put dst v) (a.put dst vv) w G := by
  cases dst with
  | none => exact h
  | some d =>
    refine ⟨by simp [Act.put, h.size], h.defers, fun t => ?_, h.boxes, h.heap, h.kept, h.ext, h.mine, h.same, h.fresh, h.nob⟩
    by_cases ht : t = d
    · subst ht
      simp only [St.put, St.set, Act.put]
      rw [upd_same, getD_set_eq' _ (by rw [h.size]; exact hd t rfl)]
      exact hv t rfl
    · simp only [St.put, St.set, Act.put]
      rw [upd_ne _ _ _ _ ht, getD_set_ne' _ ht]
      exact h.slots t

theorem SR.turn {st : St} {a : Act} {w : World} {G G' : Gh} (h : SR w0 F0 A n st a w G) {t b : Nat} (hb : G.ω b = .slot t 0) (ho : Gh.Off G G' b)
    (hm : G.Fr b ≤ G'.Fr b) {x : AV} (hx : TR w G' (.slot t) x (a.tmps.getD t undef)) :
    SR w0 F0 A n (st.set t x) a w G' := by
  have hE : Ext w G.Fr w G'.Fr := ho.ext hm
  have hmine := h.mine b (by rw [hb]; simp)
  refine ⟨h.size, h.defers, fun u => ?_, fun s cs hs => ?_, ?_, h.kept, h.ext.trans hE, fun c hc => ?_, fun c hc hA => ?_, fun c hc => ?_, fun s hs => by rw [ho.β]; exact h.nob s hs⟩
  · by_cases hu : u = t
    · subst hu; simp only [St.set]; rw [upd_same]; exact hx
    · simp only [St.set]; rw [upd_ne _ _ _ _ hu]
      exact (h.slots u).turn ho hE (fun j e => by rw [hb] at e; injection e with e1 _; exact hu e1.symm)
  · exact ho.box hE (by rw [hb]; simp) (by rw [hb]; simp) (h.boxes s cs hs)
  · exact ho.heap hE (by rw [hb]; simp) (by rw [hb]; simp) h.heap
  · by_cases hcb : c = b
    · subst hcb; exact hmine
    · exact h.mine c (by rw [← ho.ω c hcb]; exact hc)
  · by_cases hcb : c = b
    · subst hcb; rcases hmine.2 with h' | h'
      · exact absurd h' hA
      · omega
    · rw [ho.Fr c hcb]; exact h.same c hc hA
  · by_cases hcb : c = b
    · subst hcb; exact absurd hmine.1 (by omega)
    · rw [ho.Fr c hcb]; exact h.fresh c hc

def Gh.promise (G : Gh) (b len : Nat) (q : Pos) : Gh := ⟨G.Fr.put b len, G.β, upd G.ω b q⟩
theorem Gh.promise_off (G : Gh) (b len : Nat) (q : Pos) : Gh.Off G (G.promise b len q) b :=
  ⟨fun c hc => upd_ne _ _ _ _ hc, rfl, rfl, fun c hc => upd_ne _ _ _ _ hc⟩
theorem Gh.promise_same (G : Gh) (b len : Nat) (q : Pos) : (G.promise b len q).Fr b = len := FT.put_same _ _ _

theorem OwnR.frz {w : World} {F F' : FT} {b : Nat} {f : Bool} {e sz : Nat} {xs : List AV} {v : Value} (h : OwnR w F b f e sz xs v)
    (hx : Ext w F w F') (hF : xs.length ≤ F' b) (e' : Nat) : CR w F' (.slice .frz e' sz xs) v := by
  obtain ⟨n, vs, ho, hob, hz, hl, hc, h1, h2⟩ := h
  rcases ho.2 with ⟨rfl, hn⟩ | ⟨g, cap, cur, rfl, hbg, hg, hnc, hcm, hcs, htake⟩
  · simp [Value.ownBlock] at hob
  · have hgb : g = b := by simpa [Value.ownBlock] using hob
    subst hgb
    refine .frz e' sz n cap ⟨g, 0, none⟩ xs (fun i => vs.getD i undef) (fun _ => rfl) hz (by rw [← hl]; exact ho.1) hnc (fun i hi => by simp only; omega) (fun i hi => ?_) (fun i hi => ?_) (fun i hi => ?_)
    · have hi' : i < vs.length := by omega
      have := ho.cells (g := g) (by simp [Value.ownBlock]) i (vs.getD i undef) (by simp [List.getElem?_eq_getElem hi', List.getD])
      rw [show (⟨g, 0 + i, none⟩ : Addr) = (⟨g, 0, none⟩ : Addr).add i from by unfold Addr.add; split <;> simp_all]
      exact this
    · have hi' : i < vs.length := by omega
      simpa [List.getD, List.getElem?_eq_getElem hi'] using (hc i hi hi').1
    · have hi' : i < vs.length := by omega
      have := (hc i hi hi').2.ext hx
      simpa [List.getD, List.getElem?_eq_getElem hi'] using this

theorem OwnR.hdr {w : World} {F F' : FT} {b : Nat} {f : Bool} {e sz : Nat} {xs : List AV} {v : Value} (h : OwnR w F b f e sz xs v) (e' : Nat) :
    CR w F' (.slice .hdr e' sz xs) v := by
  obtain ⟨n, vs, ho, hob, hz, hl, hc, h1, h2⟩ := h
  rcases ho.2 with ⟨rfl, hn⟩ | ⟨g, cap, cur, rfl, hbg, hg, hnc, hcm, hcs, htake⟩
  · simp [Value.ownBlock] at hob
  · exact .hdr e' sz n cap _ xs hz (by rw [← hl]; exact ho.1) hnc

theorem OwnR.shared {w : World} {F F' : FT} {b : Nat} {f : Bool} {e sz : Nat} {xs : List AV} {v : Value} (h : OwnR w F b f e sz xs v)
    (hx : Ext w F w F') (hF : F' b ≤ xs.length) : OwnR w F' b false e sz xs v := by
  obtain ⟨n, vs, ho, hob, hz, hl, hc, h1, h2⟩ := h
  exact ⟨n, vs, ho, hob, hz, hl, fun i h h' => ⟨(hc i h h').1, (hc i h h').2.ext hx⟩, hF, fun h => by cases h⟩

end Go.Proofs.YtcodfehgnjplcaaGreatDoor.Abs

/- Operands: what is peeked at, given, taken, copied. -/
namespace Go.Proofs.YtcodfehgnjplcaaGreatDoor.Abs
set_option linter.all false

theorem ofCell_CR {w : World} {Fr : FT} {v : Value} {x : AV} (h : ofCell v = some x) : CR w Fr x v ∧ v.oneCell' = true := by
  unfold ofCell at h
  split at h <;> first
    | (injection h with h; subst h; exact ⟨.bool _, rfl⟩)
    | (injection h with h; subst h; exact ⟨.int _ _, rfl⟩)
    | (injection h with h; subst h; exact ⟨.str _ _ rfl, rfl⟩)
    | (injection h with h; subst h; exact ⟨.flt _ _, rfl⟩)
    | (injection h with h; subst h; exact ⟨.nilptr, rfl⟩)
    | (injection h with h; subst h; exact ⟨.nil _ _, rfl⟩)
    | (injection h with h; subst h; exact ⟨.nilI, rfl⟩)
    | (injection h with h; subst h; exact ⟨.nilfn, rfl⟩)
    | cases h

theorem ofCells_CR {w : World} {Fr : FT} : ∀ {vs : List Value} {xs : List AV}, ofCells vs = some xs →
    vs.length = xs.length ∧ ∀ i (h : i < xs.length) (h' : i < vs.length), (vs[i]).oneCell' = true ∧ CR w Fr xs[i] vs[i]
  | [], xs, h => by simp [ofCells] at h; subst h; simp
  | v :: r, xs, h => by
    simp only [ofCells, Option.bind_eq_some_iff, Option.map_eq_some_iff] at h
    obtain ⟨x, hx, l, hl, rfl⟩ := h
    obtain ⟨h1, h2⟩ := ofCells_CR (w := w) (Fr := Fr) hl
    refine ⟨by simp [h1], fun i hi hi' => ?_⟩
    cases i with
    | zero => exact ⟨(ofCell_CR (w := w) (Fr := Fr) hx).2, (ofCell_CR hx).1⟩
    | succ i => exact h2 i (by simpa using hi) (by simpa using hi')

theorem ofConst_CR {w : World} {Fr : FT} {v : Value} {x : AV} (h : ofConst v = some x) : CR w Fr x v := by
  unfold ofConst at h
  split at h
  · rename_i cs
    rw [Option.map_eq_some_iff] at h
    obtain ⟨l, hl, rfl⟩ := h
    obtain ⟨h1, h2⟩ := ofCells_CR (w := w) (Fr := Fr) hl
    exact .agg l cs (by simpa using h1) (fun i hi => (h2 i (by rw [← h1]; simpa using hi) (by simpa using hi)).1) (fun i hi hi' => (h2 i hi (by simpa using hi')).2)
  · exact (ofCell_CR h).1

theorem clsDeep_left_TR {w : World} {G G' : Gh} {p q : Nat → Pos} {x : AV} {v : Value} (hx : Ext w G.Fr w G'.Fr) (hβ : G'.β = G.β) (h : TR w G p x v) : TR w G' q (hdV x) v := by
  have one : ∀ {p q : Pos} {x : AV} {v : Value}, TC w G p x v → TC w G' q (x.cls .left) v := by
    intro p q x v h
    by_cases hown : x.isOwn = true
    · cases x with
      | slice c e sz xs => cases c with
        | own f => obtain ⟨b, _, hO⟩ := h; exact TC_of_CR (hO.hdr e)
        | _ => simp [AV.isOwn] at hown
      | _ => simp [AV.isOwn] at hown
    · have hc := (CR_of_TC h (by simpa using hown)).ext hx
      have : x.cls .left = x := by
        cases x with
        | slice c e sz xs => cases c with
          | own f => simp [AV.isOwn] at hown
          | _ => rfl
        | _ => rfl
      rw [this]; exact TC_of_CR hc
  cases x with
  | tup xs =>
    obtain ⟨vs, rfl, hl, hr⟩ := h
    refine ⟨vs, rfl, by simp [hl], fun j h h' => ?_⟩
    simp only [List.getElem_map]
    exact one (hr j (by simpa using h) h')
  | ptr k off => cases k with
    | loc s => obtain ⟨b', hb', rfl⟩ := h; exact ⟨b', by rw [hβ]; exact hb', rfl⟩
    | obj i => exact TR_of_TC (one (p := p 0) (TC_of_TR h rfl)) rfl
  | skipped => exact h
  | undef => trivial
  | slice c e sz xs => exact TR_of_TC (one (p := p 0) (TC_of_TR h rfl)) rfl
  | _ => exact TR_of_TC (one (p := p 0) (TC_of_TR h rfl)) rfl

variable {w0 : World} {F0 : FT} {A : Nat → Prop} {n : Nat} {st : St} {a : Act} {w : World} {G : Gh}

def Gh.rename (G : Gh) (t : Nat) (p : Nat → Pos) : Gh := ⟨G.Fr, G.β, fun c => match G.ω c with | .slot u j => if u = t then p j else .slot u j | o => o⟩

theorem Gh.rename_ne (G : Gh) (t : Nat) (p : Nat → Pos) (c : Nat) (h : ∀ j, G.ω c ≠ .slot t j) : (G.rename t p).ω c = G.ω c := by
  simp only [Gh.rename]
  split
  · rename_i u j hu
    rw [if_neg (fun e => h j (by rw [hu, e]))]
    exact hu.symm
  · rfl
theorem Gh.rename_eq (G : Gh) (t : Nat) (p : Nat → Pos) (c j : Nat) (h : G.ω c = .slot t j) : (G.rename t p).ω c = p j := by
  simp [Gh.rename, h]

theorem TC.rename {t : Nat} {p : Nat → Pos} {q : Pos} {x : AV} {v : Value} (hq : ∀ j, q ≠ .slot t j) (h : TC w G q x v) : TC w (G.rename t p) q x v := by
  by_cases hown : x.isOwn = true
  · cases x with
    | slice c e sz xs => cases c with
      | own f => obtain ⟨b, hb, hO⟩ := h; exact ⟨b, by rw [Gh.rename_ne _ _ _ _ (fun j => by rw [hb]; exact hq j)]; exact hb, hO⟩
      | _ => simp [AV.isOwn] at hown
    | _ => simp [AV.isOwn] at hown
  · exact TC_of_CR (show CR w G.Fr x v from CR_of_TC h (by simpa using hown))

theorem TC.renamed {t j : Nat} {p : Nat → Pos} {x : AV} {v : Value} (h : TC w G (.slot t j) x v) : TC w (G.rename t p) (p j) x v := by
  by_cases hown : x.isOwn = true
  · cases x with
    | slice c e sz xs => cases c with
      | own f => obtain ⟨b, hb, hO⟩ := h; exact ⟨b, Gh.rename_eq _ _ _ _ _ hb, hO⟩
      | _ => simp [AV.isOwn] at hown
    | _ => simp [AV.isOwn] at hown
  · exact TC_of_CR (show CR w G.Fr x v from CR_of_TC h (by simpa using hown))

theorem TR.renamed {t : Nat} {p : Nat → Pos} {x : AV} {v : Value} (h : TR w G (.slot t) x v) : TR w (G.rename t p) p x v := by
  cases x with
  | tup xs =>
    obtain ⟨vs, rfl, hl, hr⟩ := h
    exact ⟨vs, rfl, hl, fun j h h' => (hr j h h').renamed⟩
  | ptr k off => cases k with
    | loc s => exact h
    | obj i => exact TR_of_TC (TC.renamed (TC_of_TR h rfl)) rfl
  | skipped => exact h
  | undef => trivial
  | slice c e sz xs => exact TR_of_TC (TC.renamed (TC_of_TR h rfl)) rfl
  | _ => exact TR_of_TC (TC.renamed (TC_of_TR h rfl)) rfl

theorem TR.rename {t u : Nat} {p : Nat → Pos} {x : AV} {v : Value} (hu : u ≠ t) (h : TR w G (.slot u) x v) : TR w (G.rename t p) (.slot u) x v := by
  have hq : ∀ i j, (Pos.slot u i) ≠ .slot t j := fun i j e => by injection e with e1 _; exact hu e1
  cases x with
  | tup xs =>
    obtain ⟨vs, rfl, hl, hr⟩ := h
    exact ⟨vs, rfl, hl, fun j h h' => (hr j h h').rename (hq _)⟩
  | ptr k off => cases k with
    | loc s => exact h
    | obj i => exact TR_of_TC (TC.rename (hq _) (TC_of_TR h rfl)) rfl
  | skipped => exact h
  | undef => trivial
  | slice c e sz xs => exact TR_of_TC (TC.rename (hq _) (TC_of_TR h rfl)) rfl
  | _ => exact TR_of_TC (TC.rename (hq _) (TC_of_TR h rfl)) rfl

theorem Gh.rename_box {t : Nat} {p : Nat → Pos} {s : K} {ob : Obj} (h : BoxR w G s ob) : BoxR w (G.rename t p) s ob :=
  h.map (Ext.refl _ _) (fun _ h => by cases s <;> exact h) (fun b hb _ => ⟨rfl, fun h => h, by rw [Gh.rename_ne _ _ _ _ (fun j => by rw [hb]; simp)]; exact hb⟩) (fun c x v h => h.rename (by simp))
theorem Gh.rename_heap {t : Nat} {p : Nat → Pos} {h : H} (hh : HR w G h) : HR w (G.rename t p) h :=
  ⟨fun i ob hi => Gh.rename_box (hh.box i ob hi), hh.ids, hh.glob⟩

theorem SR.slotTake (h : SR w0 F0 A n st a w G) (t : Nat) (p : Nat → Pos) :
    SR w0 F0 A n (st.set t (lfV (st.s t))) a w (G.rename t p) ∧ TR w (G.rename t p) p (st.s t) (a.tmps.getD t undef) := by
  refine ⟨⟨h.size, h.defers, fun u => ?_, fun s cs hs => Gh.rename_box (h.boxes s cs hs), Gh.rename_heap h.heap, h.kept, h.ext, fun b hb => ?_, h.same, h.fresh, h.nob⟩, (h.slots t).renamed⟩
  · by_cases hu : u = t
    · subst hu; simp only [St.set]; rw [upd_same]
      exact clsDeep_left_TR (G := G) (G' := G.rename u p) (Ext.refl w G.Fr) rfl (h.slots u)
    · simp only [St.set]; rw [upd_ne _ _ _ _ hu]; exact (h.slots u).rename hu
  · by_cases hj : ∃ j, G.ω b = .slot t j
    · obtain ⟨j, hj⟩ := hj
      exact h.mine b (by rw [hj]; simp)
    · exact h.mine b (by rw [← Gh.rename_ne G t p b (fun j e => hj ⟨j, e⟩)]; exact hb)

theorem frozen_of_not_own {x : AV} (h : x.isOwn = false) : gvV x = x := by
  cases x with
  | slice c e sz xs => cases c with
    | own f => simp [AV.isOwn] at h
    | _ => rfl
  | _ => rfl

theorem SR.slotGive (h : SR w0 F0 A n st a w G) (t : Nat) :
    ∃ G', SR w0 F0 A n (st.set t (gvV (st.s t))) a w G' ∧ G'.β = G.β ∧ Ext w G.Fr w G'.Fr ∧
      (∀ b, (∀ j, G.ω b ≠ .slot t j) → G'.ω b = G.ω b ∧ G'.Fr b = G.Fr b) ∧ TR w G' (.slot t) (gvV (st.s t)) (a.tmps.getD t undef) := by
  by_cases hown : (st.s t).isOwn = true
  · have hs := h.slots t
    cases hx : st.s t with
    | slice c e sz xs =>
      cases c with
      | own f =>
        rw [hx] at hs
        obtain ⟨b, hb, hO⟩ := hs
        have hle : G.Fr b ≤ xs.length := by obtain ⟨_, _, _, _, _, _, _, h1, _⟩ := hO; exact h1
        have hm : G.Fr b ≤ (G.promise b xs.length .free).Fr b := by rw [Gh.promise_same]; exact hle
        have hE : Ext w G.Fr w (G.promise b xs.length .free).Fr := (G.promise_off b xs.length .free).ext hm
        have hT : TR w (G.promise b xs.length .free) (.slot t) (gvV (AV.slice (.own f) e sz xs)) (a.tmps.getD t undef) :=
          TR_of_CR (hO.frz hE (by rw [Gh.promise_same]; exact Nat.le_refl _) e)
        refine ⟨G.promise b xs.length .free, ?_, rfl, hE, fun c hc => ?_, hT⟩
        · have := h.turn (t := t) hb (G.promise_off b xs.length .free) hm (x := gvV (AV.slice (.own f) e sz xs)) hT
          simpa [hx] using this
        · have hne : c ≠ b := fun e => hc 0 (e ▸ hb)
          exact ⟨(G.promise_off b xs.length .free).ω c hne, (G.promise_off b xs.length .free).Fr c hne⟩
      | _ => rw [hx] at hown; simp [AV.isOwn] at hown
    | _ => rw [hx] at hown; simp [AV.isOwn] at hown
  · have he := frozen_of_not_own (by simpa using hown : (st.s t).isOwn = false)
    rw [he]
    refine ⟨G, ?_, rfl, Ext.refl _ _, fun _ _ => ⟨rfl, rfl⟩, h.slots t⟩
    have := h.put (dst := none) (v := .undef) (vv := undef) (by simp) (by simp)
    have hset : st.set t (st.s t) = st := by
      cases st; simp only [St.set]; congr 1; funext j; simp only [upd]; split <;> simp_all
    rw [hset]; exact h

/-! ### Kept from one world and ghost to the next -/
theorem TC.keeps {w w' : World} {G G' : Gh} {p : Pos} {x : AV} {v : Value} (hx : Ext w G.Fr w' G'.Fr)
    (hk : ∀ b, G.ω b = p → b < w.heap.size → w'.heap[b]? = w.heap[b]? ∧ G'.Fr b = G.Fr b ∧ G'.ω b = p) (h : TC w G p x v) : TC w' G' p x v := by
  by_cases hown : x.isOwn = true
  · cases x with
    | slice c e sz xs => cases c with
      | own f =>
        obtain ⟨b, hb, hO⟩ := h
        obtain ⟨h1, h2, h3⟩ := hk b hb hO.lt
        exact ⟨b, h3, hO.ext hx h1 h2⟩
      | _ => simp [AV.isOwn] at hown
    | _ => simp [AV.isOwn] at hown
  · exact TC_of_CR ((CR_of_TC h (by simpa using hown)).ext hx)

theorem TR.keeps {w w' : World} {G G' : Gh} {p : Nat → Pos} {x : AV} {v : Value} (hx : Ext w G.Fr w' G'.Fr) (hβ : ∀ s off, x = .ptr (.loc s) off → G'.β s = G.β s)
    (hk : ∀ j b, G.ω b = p j → b < w.heap.size → w'.heap[b]? = w.heap[b]? ∧ G'.Fr b = G.Fr b ∧ G'.ω b = p j) (h : TR w G p x v) : TR w' G' p x v := by
  cases x with
  | tup xs =>
    obtain ⟨vs, rfl, hl, hr⟩ := h
    exact ⟨vs, rfl, hl, fun j h h' => (hr j h h').keeps hx (hk _)⟩
  | ptr k off => cases k with
    | loc s => obtain ⟨b, hb, rfl⟩ := h; exact ⟨b, by rw [hβ s off rfl]; exact hb, rfl⟩
    | obj i => exact TR_of_TC (TC.keeps hx (hk 0) (TC_of_TR h rfl)) rfl
  | skipped => exact h
  | undef => trivial
  | slice c e sz xs => exact TR_of_TC (TC.keeps hx (hk 0) (TC_of_TR h rfl)) rfl
  | _ => exact TR_of_TC (TC.keeps hx (hk 0) (TC_of_TR h rfl)) rfl

theorem BoxR.keeps {w w' : World} {G G' : Gh} {s : K} {ob : Obj} (hx : Ext w G.Fr w' G'.Fr) (hβ : ∀ t, G.at s = some t → G'.at s = some t)
    (hk : ∀ p, (p = .box s ∨ ∃ c, p = .cell s c) → ∀ b, G.ω b = p → b < w.heap.size → w'.heap[b]? = w.heap[b]? ∧ G'.Fr b = G.Fr b ∧ G'.ω b = p) (h : BoxR w G s ob) : BoxR w' G' s ob :=
  h.map hx hβ (fun b hb hlt => by obtain ⟨h1, h2, h3⟩ := hk _ (.inl rfl) b hb hlt; exact ⟨h1, fun h => by rw [h2]; exact h, h3⟩) (fun c x v h => h.keeps hx (hk _ (.inr ⟨c, rfl⟩)))

theorem HR.keeps {w w' : World} {G G' : Gh} {h : H} (hx : Ext w G.Fr w' G'.Fr) (hids : ∀ i, h.n ≤ i → G'.Fr.θ i = none)
    (hk : ∀ i p, (p = .box (.obj i) ∨ ∃ c, p = .cell (.obj i) c) → ∀ b, G.ω b = p → b < w.heap.size → w'.heap[b]? = w.heap[b]? ∧ G'.Fr b = G.Fr b ∧ G'.ω b = p) (hh : HR w G h) : HR w' G' h :=
  ⟨fun i ob hi => (hh.box i ob hi).keeps hx (fun t ht => hx.ids i t ht) (hk i), hids, fun g xs hg => (hh.glob g xs hg).ext hx⟩

end Go.Proofs.YtcodfehgnjplcaaGreatDoor.Abs
