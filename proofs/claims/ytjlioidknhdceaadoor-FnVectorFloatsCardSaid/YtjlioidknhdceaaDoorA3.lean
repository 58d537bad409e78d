/- What an abstract value says of a machine's value in a world: contents, owned rows, boxes, the heap; how it is kept. -/
import Derived.Test.YtjlioidknhdceaaDoorA2
import Derived.Laws.AppendOwn
import Derived.Below
namespace Go.Proofs.YtjlioidknhdceaaDoor.Abs
set_option linter.all false

/-! ### The heap's numbers -/
theorem H.get_ge {h : H} {i : Nat} (hi : h.n ≤ i) : h.get i = none := by
  unfold H.get; unfold H.n at hi
  split
  · rfl
  · rw [List.getElem?_eq_none (by omega)]; rfl
theorem H.get_lt {h : H} {i : Nat} {o : Obj} (hi : h.get i = some o) : h.base ≤ i ∧ i < h.n := by
  rcases Nat.lt_or_ge i h.n with h1 | h1
  · refine ⟨?_, h1⟩
    unfold H.get at hi
    split at hi
    · cases hi
    · omega
  · rw [H.get_ge h1] at hi; cases hi
theorem H.n_push (h : H) (o : Obj) : (h.push o).n = h.n + 1 := by simp [H.push, H.n]; omega
theorem H.n_set (h : H) (i : Nat) (o : Obj) : (h.set i o).n = h.n := by unfold H.set; split <;> simp [H.n]
theorem H.n_del (h : H) (i : Nat) : (h.del i).n = h.n := by unfold H.del; split <;> simp [H.n]
theorem H.Γ_push (h : H) (o : Obj) : (h.push o).Γ = h.Γ := rfl
theorem H.Γ_set (h : H) (i : Nat) (o : Obj) : (h.set i o).Γ = h.Γ := by unfold H.set; split <;> rfl
theorem H.Γ_del (h : H) (i : Nat) : (h.del i).Γ = h.Γ := by unfold H.del; split <;> rfl
theorem H.get_push (h : H) (o : Obj) (i : Nat) : (h.push o).get i = if i = h.n then some o else h.get i := by
  unfold H.get H.push H.n
  by_cases h1 : i < h.base
  · rw [if_pos h1, if_neg (by omega), if_pos h1]
  · simp only [if_neg h1]
    by_cases h2 : i = h.base + h.l.length
    · rw [if_pos h2, List.getElem?_append_right (by omega), show i - h.base - h.l.length = 0 by omega]; rfl
    · rw [if_neg h2]
      by_cases h3 : i - h.base < h.l.length
      · rw [List.getElem?_append_left h3]
      · rw [List.getElem?_append_right (by omega), List.getElem?_eq_none (by simp; omega), List.getElem?_eq_none (by omega)]
theorem H.get_set {h : H} {i : Nat} {x : Obj} (hi : h.get i = some x) (o : Obj) (j : Nat) : (h.set i o).get j = if j = i then some o else h.get j := by
  obtain ⟨h1, h2⟩ := H.get_lt hi
  unfold H.set
  rw [if_neg (by omega)]
  unfold H.get
  unfold H.n at h2
  by_cases h3 : j < h.base
  · rw [if_pos h3, if_neg (by omega), if_pos h3]
  · simp only [if_neg h3]
    by_cases h4 : j = i
    · subst h4; rw [if_pos rfl, List.getElem?_set_self (by omega)]; rfl
    · rw [if_neg h4, List.getElem?_set_ne (by omega)]
theorem H.get_del (h : H) (i j : Nat) : (h.del i).get j = if j = i then none else h.get j := by
  unfold H.del
  by_cases h1 : i < h.base
  · rw [if_pos h1]
    by_cases h2 : j = i
    · subst h2; rw [if_pos rfl]; unfold H.get; rw [if_pos h1]
    · rw [if_neg h2]
  · rw [if_neg h1]
    unfold H.get
    by_cases h3 : j < h.base
    · rw [if_pos h3, if_pos h3]; split <;> rfl
    · simp only [if_neg h3]
      by_cases h4 : j = i
      · subst h4; rw [if_pos rfl]
        by_cases h5 : j - h.base < h.l.length
        · rw [List.getElem?_set_self h5]; rfl
        · rw [List.getElem?_eq_none (by simp; omega)]; rfl
      · rw [if_neg h4, List.getElem?_set_ne (by omega)]

structure Th where
  b : Nat
  N : Nat
  e : Nat
  r : Bool
  deriving DecidableEq

structure FT where
  f : Nat → Nat
  θ : Nat → Option Th

instance : CoeFun FT (fun _ => Nat → Nat) := ⟨FT.f⟩

def FT.put (F : FT) (b n : Nat) : FT := ⟨upd F.f b n, F.θ⟩
theorem FT.put_same (F : FT) (b n : Nat) : (F.put b n) b = n := upd_same _ _ _
theorem FT.put_ne (F : FT) (b n c : Nat) (h : c ≠ b) : (F.put b n) c = F c := upd_ne _ _ _ _ h
def FT.name (F : FT) (i : Nat) (t : Th) : FT := ⟨F.f, upd F.θ i (some t)⟩

inductive CR (w : World) (Fr : FT) : AV → Value → Prop
  | bool (b : Bool) : CR w Fr (.bool b) (.bool b)
  | int (k : IntKind) (n : Int) : CR w Fr (.int k n) (.int k n)
  | str (s : ByteArray) (l : List UInt8) (h : s.data.toList = l) : CR w Fr (.str l) (.string s)
  | flt (k : FloatKind) (n : Nat) : CR w Fr (.flt k n) (.float k n)
  | nil (e sz : Nat) : CR w Fr (.slice .nil e sz []) (.slice none 0 0)
  | frz (e sz n cap : Nat) (a : Addr) (xs : List AV) (vs : Nat → Value) (hs : 0 < xs.length → a.spot = none) (hz : 0 < sz) (hl : xs.length = n * sz) (hc : n ≤ cap)
      (hp : ∀ i, i < xs.length → a.off + i < Fr a.block)
      (hv : ∀ i, i < xs.length → w.cell? ⟨a.block, a.off + i, none⟩ = some (vs i)) (ho : ∀ i, i < xs.length → (vs i).oneCell' = true)
      (hr : ∀ i (h : i < xs.length), CR w Fr xs[i] (vs i)) : CR w Fr (.slice .frz e sz xs) (.slice (some a) n cap)
  | hdr (e sz n cap : Nat) (a : Addr) (xs : List AV) (hz : 0 < sz) (hl : xs.length = n * sz) (hc : n ≤ cap) : CR w Fr (.slice .hdr e sz xs) (.slice (some a) n cap)
  | agg (xs : List AV) (vs : Array Value) (hl : vs.size = xs.length) (ho : ∀ i (h : i < vs.size), (vs[i]).oneCell' = true)
      (hr : ∀ i (h : i < xs.length) (h' : i < vs.size), CR w Fr xs[i] vs[i]) : CR w Fr (.agg xs) (.agg vs)
  | eptr (a : Addr) (xs : List AV) (vs : Nat → Value) (hs : a.spot = none) (hp : ∀ i, i < xs.length → a.off + i < Fr a.block)
      (hv : ∀ i, i < xs.length → w.cell? ⟨a.block, a.off + i, none⟩ = some (vs i)) (ho : ∀ i, i < xs.length → (vs i).oneCell' = true)
      (hr : ∀ i (h : i < xs.length), CR w Fr xs[i] (vs i)) : CR w Fr (.eptr xs) (.pointer (some a))
  | nilptr : CR w Fr .nilptr (.pointer none)
  | iface (t : TypeId) (x : AV) (v : Value) (hr : CR w Fr x v) : CR w Fr (.iface t x) (.iface t v)
  | nilI : CR w Fr .nilI .nilIface
  | fn (f : FuncId) : CR w Fr (.fn f) (.func (.func f) #[] #[])
  | gl (g : Nat) : CR w Fr (.gl g) (.pointer (some ⟨g, 0, none⟩))
  | nilfn : CR w Fr .nilfn .nilFunc
  | ref (i off : Nat) (t : Th) (ht : Fr.θ i = some t) : CR w Fr (.ptr (.obj i) off) (.pointer (some ⟨t.b, off, none⟩))
  | hsl (i k e sz n cap : Nat) (a : Addr) (t : Th) (ht : Fr.θ i = some t) (hz : 0 < sz) (hc : n ≤ cap)
      (ha : k = 0 ∨ 0 < n → a = ⟨t.b, k, none⟩ ∧ (t.r = true → k + cap * sz = t.N)) : CR w Fr (.hsl i k e sz n) (.slice (some a) n cap)
  | sen (b off : Nat) (cs : Array Value) (e : TypeId) (hp : 0 < Fr b) (hh : w.heap[b]? = some (.cells cs e (0, 0))) : CR w Fr (.sen b off) (.pointer (some ⟨b, off, none⟩))

structure Ext (w : World) (Fr : FT) (w' : World) (Fr' : FT) : Prop where
  more : ∀ b, Fr b ≤ Fr' b
  cell : ∀ b o v, o < Fr b → w.cell? ⟨b, o, none⟩ = some v → w'.cell? ⟨b, o, none⟩ = some v
  ids : ∀ i t, Fr.θ i = some t → Fr'.θ i = some t
  shp : ∀ b cs e, 0 < Fr b → w.heap[b]? = some (.cells cs e (0, 0)) → ∃ cs', w'.heap[b]? = some (.cells cs' e (0, 0))

theorem Ext.refl (w : World) (Fr : FT) : Ext w Fr w Fr := ⟨fun _ => Nat.le_refl _, fun _ _ _ _ h => h, fun _ _ h => h, fun _ cs _ _ h => ⟨cs, h⟩⟩
theorem Ext.trans {w w1 w2 : World} {F F1 F2 : FT} (h : Ext w F w1 F1) (k : Ext w1 F1 w2 F2) : Ext w F w2 F2 :=
  ⟨fun b => Nat.le_trans (h.more b) (k.more b), fun b o v ho hv => k.cell b o v (Nat.lt_of_lt_of_le ho (h.more b)) (h.cell b o v ho hv), fun i t h1 => k.ids i t (h.ids i t h1),
    fun b cs e h1 h2 => by obtain ⟨cs', h3⟩ := h.shp b cs e h1 h2; exact k.shp b cs' e (Nat.lt_of_lt_of_le h1 (h.more b)) h3⟩

theorem CR.ext {w w' : World} {Fr Fr' : FT} (hx : Ext w Fr w' Fr') {x : AV} {v : Value} (h : CR w Fr x v) : CR w' Fr' x v := by
  induction h with
  | bool b => exact .bool b
  | int k n => exact .int k n
  | str s l h => exact .str s l h
  | flt k n => exact .flt k n
  | nil e sz => exact .nil e sz
  | frz e sz n cap a xs vs hs hz hl hc hp hv ho hr ih =>
    exact .frz e sz n cap a xs vs hs hz hl hc (fun i hi => Nat.lt_of_lt_of_le (hp i hi) (hx.more _)) (fun i hi => hx.cell _ _ _ (hp i hi) (hv i hi)) ho ih
  | hdr e sz n cap a xs hz hl hc => exact .hdr e sz n cap a xs hz hl hc
  | agg xs vs hl ho hr ih => exact .agg xs vs hl ho ih
  | eptr a xs vs hs hp hv ho hr ih => exact .eptr a xs vs hs (fun i hi => Nat.lt_of_lt_of_le (hp i hi) (hx.more _)) (fun i hi => hx.cell _ _ _ (hp i hi) (hv i hi)) ho ih
  | nilptr => exact .nilptr
  | iface t x v hr ih => exact .iface t x v ih
  | nilI => exact .nilI
  | fn f => exact .fn f
  | gl g => exact .gl g
  | nilfn => exact .nilfn
  | ref i off t ht => exact .ref i off t (hx.ids _ _ ht)
  | hsl i k e sz n cap a t ht hz hc ha => exact .hsl i k e sz n cap a t (hx.ids _ _ ht) hz hc ha
  | sen b off cs e hp hh =>
    obtain ⟨cs', h⟩ := hx.shp b cs e hp hh
    exact .sen b off cs' e (Nat.lt_of_lt_of_le hp (hx.more _)) h

def OwnR (w : World) (Fr : FT) (b : Nat) (f : Bool) (e sz : Nat) (xs : List AV) (v : Value) : Prop :=
  ∃ n vs, w.ownsRow 0 e sz v n vs ∧ v.ownBlock = some b ∧ 0 < sz ∧ vs.length = xs.length ∧
    (∀ i (h : i < xs.length) (h' : i < vs.length), (vs[i]).oneCell' = true ∧ CR w Fr xs[i] vs[i]) ∧ Fr b ≤ xs.length ∧ (f = true → Fr b = 0)

inductive Pos where
  | free
  | slot (t j : Nat)
  | cell (s : K) (c : Nat)
  | box (s : K)
  | arg (i : Nat)
  | mid
  deriving DecidableEq

structure Gh where
  Fr : FT
  β : Nat → Option Th
  ω : Nat → Pos

def Gh.at (G : Gh) : K → Option Th
  | .loc s => G.β s
  | .obj i => G.Fr.θ i

def TC (w : World) (G : Gh) (p : Pos) : AV → Value → Prop
  | .slice (.own f) e sz xs, v => ∃ b, G.ω b = p ∧ OwnR w G.Fr b f e sz xs v
  | x, v => CR w G.Fr x v

def TR (w : World) (G : Gh) (p : Nat → Pos) : AV → Value → Prop
  | .tup xs, v => ∃ vs : Array Value, v = .tuple vs ∧ vs.size = xs.length ∧ ∀ j (h : j < xs.length) (h' : j < vs.size), TC w G (p (j + 1)) xs[j] vs[j]
  | .ptr (.loc s) off, v => ∃ t, G.β s = some t ∧ v = .pointer (some ⟨t.b, off, none⟩)
  | .skipped, v => v = undef
  | .undef, _ => True
  | x, v => TC w G (p 0) x v

structure Kp (w0 : World) (A : Nat → Prop) (w : World) : Prop where
  os : w.os = w0.os
  tape : w.tape = w0.tape
  output : w.output = w0.output
  size : w0.heap.size ≤ w.heap.size
  block : ∀ b, b < w0.heap.size → ¬ A b → w.heap[b]? = w0.heap[b]?

theorem Kp.refl (w : World) (A : Nat → Prop) : Kp w A w := ⟨rfl, rfl, rfl, Nat.le_refl _, fun _ _ _ => rfl⟩

def ObjR (w : World) (G : Gh) (s : K) (t : Th) : Obj → Prop
  | .cells cs => G.Fr t.b = 0 ∧ t.r = false ∧ ∃ vs, w.heap[t.b]? = some (.cells vs t.e (0, 0)) ∧ vs.size = cs.length ∧
      ∀ c (h : c < cs.length) (h' : c < vs.size), (vs[c]).oneCell' = true ∧ TC w G (.cell s c) cs[c] vs[c]
  | .row e sz cp cs => G.Fr t.b = 0 ∧ t.r = true ∧ t.e = e ∧ 0 < sz ∧ ((∃ cap, t.N = cap * sz ∧ cap ≤ maxLen) ∧ ∀ N, cp = some N → t.N = N) ∧ cs.length ≤ t.N ∧ (∃ m, cs.length = m * sz) ∧
      ∃ vs, w.heap[t.b]? = some (.cells vs t.e (0, 0)) ∧ vs.size = t.N ∧ ∀ c (h : c < cs.length) (h' : c < vs.size), (vs[c]).oneCell' = true ∧ CR w G.Fr cs[c] vs[c]
  | .ro cs => CR w G.Fr (.eptr cs) (.pointer (some ⟨t.b, 0, none⟩))
  | .iter s pos => G.Fr t.b = 0 ∧ ∃ s', w.heap[t.b]? = some (.stringIter s' pos) ∧ s'.data.toList = s

def BoxR (w : World) (G : Gh) (s : K) (ob : Obj) : Prop := ∃ t, G.at s = some t ∧ G.ω t.b = .box s ∧ t.b < w.heap.size ∧ ObjR w G s t ob

def BR (w : World) (G : Gh) (b : Nat → Option Obj) : Prop := ∀ s ob, b s = some ob → BoxR w G (.loc s) ob

structure HR (w : World) (G : Gh) (h : H) : Prop where
  box : ∀ i ob, h.get i = some ob → BoxR w G (.obj i) ob
  ids : ∀ i, h.n ≤ i → G.Fr.θ i = none
  glob : ∀ g xs, h.Γ g = some xs → CR w G.Fr (.eptr xs) (.pointer (some ⟨g, 0, none⟩))

structure SR (w0 : World) (F0 : FT) (A : Nat → Prop) (n : Nat) (st : St) (a : Act) (w : World) (G : Gh) : Prop where
  size : a.tmps.size = n
  defers : a.defers = []
  slots : ∀ t, TR w G (.slot t) (st.s t) (a.tmps.getD t undef)
  boxes : BR w G st.b
  heap : HR w G st.h
  kept : Kp w0 A w
  ext : Ext w0 F0 w G.Fr
  mine : ∀ b, G.ω b ≠ .free → b < w.heap.size ∧ (A b ∨ w0.heap.size ≤ b)
  same : ∀ b, b < w0.heap.size → ¬ A b → G.Fr b = F0 b
  fresh : ∀ b, w.heap.size ≤ b → G.Fr b = 0
  nob : ∀ s, st.b s = none → G.β s = none

theorem SR.at {w0 : World} {F0 : FT} {A : Nat → Prop} {n : Nat} {st : St} {a : Act} {w : World} {G : Gh} (h : SR w0 F0 A n st a w G) {s : K} {ob : Obj} (hs : st.at s = some ob) : BoxR w G s ob := by
  cases s with
  | loc t => exact h.boxes t ob hs
  | obj i => exact h.heap.box i ob hs

theorem ObjR.map {w w' : World} {G G' : Gh} {s : K} {t : Th} {ob : Obj} (h : ObjR w G s t ob) (hx : Ext w G.Fr w' G'.Fr) (hb : w'.heap[t.b]? = w.heap[t.b]?) (hf : G.Fr t.b = 0 → G'.Fr t.b = 0)
    (hc : ∀ c x v, TC w G (.cell s c) x v → TC w' G' (.cell s c) x v) : ObjR w' G' s t ob := by
  cases ob with
  | cells cs =>
    obtain ⟨h1, h2, vs, h3, h4, h5⟩ := h
    exact ⟨hf h1, h2, vs, by rw [hb]; exact h3, h4, fun c hc1 hc2 => ⟨(h5 c hc1 hc2).1, hc _ _ _ (h5 c hc1 hc2).2⟩⟩
  | row e sz cp cs =>
    obtain ⟨h1, h2, h3, h4, h5, h6, h6', vs, h7, h8, h9⟩ := h
    exact ⟨hf h1, h2, h3, h4, h5, h6, h6', vs, by rw [hb]; exact h7, h8, fun c hc1 hc2 => ⟨(h9 c hc1 hc2).1, (h9 c hc1 hc2).2.ext hx⟩⟩
  | ro cs => exact CR.ext hx h
  | iter s pos =>
    obtain ⟨h1, s', h2, h3⟩ := h
    exact ⟨hf h1, s', by rw [hb]; exact h2, h3⟩

theorem BoxR.map {w w' : World} {G G' : Gh} {s : K} {ob : Obj} (h : BoxR w G s ob) (hx : Ext w G.Fr w' G'.Fr) (hβ : ∀ t, G.at s = some t → G'.at s = some t)
    (hk : ∀ b, G.ω b = .box s → b < w.heap.size → w'.heap[b]? = w.heap[b]? ∧ (G.Fr b = 0 → G'.Fr b = 0) ∧ G'.ω b = .box s)
    (hc : ∀ c x v, TC w G (.cell s c) x v → TC w' G' (.cell s c) x v) : BoxR w' G' s ob := by
  obtain ⟨t, h1, h2, hlt, h3⟩ := h
  obtain ⟨k1, k2, k3⟩ := hk t.b h2 hlt
  refine ⟨t, hβ t h1, k3, ?_, h3.map hx k1 k2 hc⟩
  rw [Array.getElem?_eq_getElem hlt] at k1
  exact (Array.getElem?_eq_some_iff.1 k1).1

end Go.Proofs.YtjlioidknhdceaaDoor.Abs
