/- What an abstract value says of a machine's value in a world: contents, owned rows, boxes; how it is kept. -/
import Derived.Test.YtdnfnobgeddbfaaA2
import Derived.Laws.AppendOwn
import Derived.Below
namespace Go.Proofs.Ytdnfnobgeddbfaa.Abs
set_option linter.all false

/-- Contents: what is read of them stays as long as the promised cells do ('Fr b': the cells of block b that are promised). -/
inductive CR (w : World) (Fr : Nat → Nat) : AV → Value → Prop
  | bool (b : Bool) : CR w Fr (.bool b) (.bool b)
  | int (k : IntKind) (n : Int) : CR w Fr (.int k n) (.int k n)
  | str (s : ByteArray) (l : List UInt8) (h : s.data.toList = l) : CR w Fr (.str l) (.string s)
  | flt (k : FloatKind) (n : Nat) : CR w Fr (.flt k n) (.float k n)
  | nil (e sz : Nat) : CR w Fr (.slice .nil e sz []) (.slice none 0 0)
  | frz (e sz n cap : Nat) (a : Addr) (xs : List AV) (vs : Nat → Value) (hs : 0 < xs.length → a.spot = none) (hz : 0 < sz) (hl : xs.length = n * sz) (hc : n ≤ cap)
      (hp : ∀ i, i < xs.length → a.off + i < Fr a.block)
      (hv : ∀ i, i < xs.length → w.cell? ⟨a.block, a.off + i, none⟩ = some (vs i)) (ho : ∀ i, i < xs.length → (vs i).oneCell' = true)
      (hr : ∀ i (h : i < xs.length), CR w Fr xs[i] (vs i)) : CR w Fr (.slice .frz e sz xs) (.slice (some a) n cap)
  | hdr (e sz n cap : Nat) (a : Addr) (xs : List AV) (hz : 0 < sz) (hl : xs.length = n * sz) (hc : n ≤ cap) : CR w Fr (.slice .hdr e sz xs) (.slice (some a) n cap)
  | agg (xs : List AV) (vs : Array Value) (hl : vs.size = xs.length) (ho : ∀ i (h : i < vs.size), (vs[i]).oneCell' = true)
      (hr : ∀ i (h : i < xs.length) (h' : i < vs.size), CR w Fr xs[i] vs[i]) : CR w Fr (.agg xs) (.agg vs)
  | eptr (a : Addr) (xs : List AV) (vs : Nat → Value) (hs : a.spot = none) (hp : ∀ i, i < xs.length → a.off + i < Fr a.block)
      (hv : ∀ i, i < xs.length → w.cell? ⟨a.block, a.off + i, none⟩ = some (vs i)) (ho : ∀ i, i < xs.length → (vs i).oneCell' = true)
      (hr : ∀ i (h : i < xs.length), CR w Fr xs[i] (vs i)) : CR w Fr (.eptr xs) (.pointer (some a))
  | nilptr : CR w Fr .nilptr (.pointer none)
  | iface (t : TypeId) (x : AV) (v : Value) (hr : CR w Fr x v) : CR w Fr (.iface t x) (.iface t v)
  | nilI : CR w Fr .nilI .nilIface
  | fn (f : FuncId) : CR w Fr (.fn f) (.func (.func f) #[] #[])
  | gl (g : Nat) : CR w Fr (.gl g) (.pointer (some ⟨g, 0, none⟩))
  | nilfn : CR w Fr .nilfn .nilFunc

/-- The promised cells stay, and no promise is taken back. -/
structure Ext (w : World) (Fr : Nat → Nat) (w' : World) (Fr' : Nat → Nat) : Prop where
  more : ∀ b, Fr b ≤ Fr' b
  cell : ∀ b o v, o < Fr b → w.cell? ⟨b, o, none⟩ = some v → w'.cell? ⟨b, o, none⟩ = some v

theorem Ext.refl (w : World) (Fr : Nat → Nat) : Ext w Fr w Fr := ⟨fun _ => Nat.le_refl _, fun _ _ _ _ h => h⟩
theorem Ext.trans {w w1 w2 : World} {F F1 F2 : Nat → Nat} (h : Ext w F w1 F1) (k : Ext w1 F1 w2 F2) : Ext w F w2 F2 :=
  ⟨fun b => Nat.le_trans (h.more b) (k.more b), fun b o v ho hv => k.cell b o v (Nat.lt_of_lt_of_le ho (h.more b)) (h.cell b o v ho hv)⟩

theorem CR.ext {w w' : World} {Fr Fr' : Nat → Nat} (hx : Ext w Fr w' Fr') {x : AV} {v : Value} (h : CR w Fr x v) : CR w' Fr' x v := by
  induction h with
  | bool b => exact .bool b
  | int k n => exact .int k n
  | str s l h => exact .str s l h
  | flt k n => exact .flt k n
  | nil e sz => exact .nil e sz
  | frz e sz n cap a xs vs hs hz hl hc hp hv ho hr ih =>
    exact .frz e sz n cap a xs vs hs hz hl hc (fun i hi => Nat.lt_of_lt_of_le (hp i hi) (hx.more _)) (fun i hi => hx.cell _ _ _ (hp i hi) (hv i hi)) ho ih
  | hdr e sz n cap a xs hz hl hc => exact .hdr e sz n cap a xs hz hl hc
  | agg xs vs hl ho hr ih => exact .agg xs vs hl ho ih
  | eptr a xs vs hs hp hv ho hr ih => exact .eptr a xs vs hs (fun i hi => Nat.lt_of_lt_of_le (hp i hi) (hx.more _)) (fun i hi => hx.cell _ _ _ (hp i hi) (hv i hi)) ho ih
  | nilptr => exact .nilptr
  | iface t x v hr ih => exact .iface t x v ih
  | nilI => exact .nilI
  | fn f => exact .fn f
  | gl g => exact .gl g
  | nilfn => exact .nilfn

/-- An owned row: the slice's whole block is its owner's. -/
def OwnR (w : World) (Fr : Nat → Nat) (b : Nat) (f : Bool) (e sz : Nat) (xs : List AV) (v : Value) : Prop :=
  ∃ n vs, w.ownsRow 0 e sz v n vs ∧ v.ownBlock = some b ∧ 0 < sz ∧ vs.length = xs.length ∧
    (∀ i (h : i < xs.length) (h' : i < vs.length), (vs[i]).oneCell' = true ∧ CR w Fr xs[i] vs[i]) ∧ Fr b ≤ xs.length ∧ (f = true → Fr b = 0)

/-- Whose a block is. -/
inductive Pos where
  | free
  | slot (t j : Nat)
  | cell (s c : Nat)
  | box (s : Nat)
  | arg (i : Nat)
  | mid
  deriving DecidableEq

structure Gh where
  Fr : Nat → Nat
  β : Nat → Option Nat
  ω : Nat → Pos

/-- A cell's value: contents, or an owned row of this place. -/
def TC (w : World) (G : Gh) (p : Pos) : AV → Value → Prop
  | .slice (.own f) e sz xs, v => ∃ b, G.ω b = p ∧ OwnR w G.Fr b f e sz xs v
  | x, v => CR w G.Fr x v

/-- A slot's value. -/
def TR (w : World) (G : Gh) (p : Nat → Pos) : AV → Value → Prop
  | .tup xs, v => ∃ vs : Array Value, v = .tuple vs ∧ vs.size = xs.length ∧ ∀ j (h : j < xs.length) (h' : j < vs.size), TC w G (p (j + 1)) xs[j] vs[j]
  | .ptr s off, v => ∃ b, G.β s = some b ∧ v = .pointer (some ⟨b, off, none⟩)
  | .skipped, v => v = undef
  | .undef, _ => True
  | x, v => TC w G (p 0) x v

/-- What a call may write: the blocks in A, and new ones. -/
structure Kp (w0 : World) (A : Nat → Prop) (w : World) : Prop where
  os : w.os = w0.os
  tape : w.tape = w0.tape
  output : w.output = w0.output
  size : w0.heap.size ≤ w.heap.size
  block : ∀ b, b < w0.heap.size → ¬ A b → w.heap[b]? = w0.heap[b]?

theorem Kp.refl (w : World) (A : Nat → Prop) : Kp w A w := ⟨rfl, rfl, rfl, Nat.le_refl _, fun _ _ _ => rfl⟩

/-- The boxes. -/
def BR (w : World) (G : Gh) (b : Nat → Option (List AV)) : Prop :=
  ∀ s cs, b s = some cs → ∃ g vs e, G.β s = some g ∧ G.ω g = .box s ∧ G.Fr g = 0 ∧ w.heap[g]? = some (.cells vs e (0, 0)) ∧ vs.size = cs.length ∧
    ∀ c (h : c < cs.length) (h' : c < vs.size), (vs[c]).oneCell' = true ∧ TC w G (.cell s c) cs[c] vs[c]

/-- The state of a call that began in w0, owning the blocks in A. -/
structure SR (w0 : World) (F0 : Nat → Nat) (A : Nat → Prop) (n : Nat) (st : St) (a : Act) (w : World) (G : Gh) : Prop where
  size : a.tmps.size = n
  defers : a.defers = []
  slots : ∀ t, TR w G (.slot t) (st.s t) (a.tmps.getD t undef)
  boxes : BR w G st.b
  kept : Kp w0 A w
  ext : Ext w0 F0 w G.Fr
  mine : ∀ b, G.ω b ≠ .free → b < w.heap.size ∧ (A b ∨ w0.heap.size ≤ b)
  same : ∀ b, b < w0.heap.size → ¬ A b → G.Fr b = F0 b
  fresh : ∀ b, w.heap.size ≤ b → G.Fr b = 0

end Go.Proofs.Ytdnfnobgeddbfaa.Abs
