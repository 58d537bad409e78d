/- TR4, TR5, TR6, A30 -/
import Derived.Test.YtpinoabhaaemfaaDoorA28
import Derived.Test.YtpinoabhaaemfaaDoorA22
import Derived.Below
/- Texts read rune by rune: where there is no byte 0, no rune is 0. -/
namespace Go.Proofs.YtpinoabhaaemfaaDoor.Abs
set_option linter.all false
set_option linter.unusedVariables false

end Go.Proofs.YtpinoabhaaemfaaDoor.Abs

/- Rows of anything that are appended to. -/
namespace Go.Proofs.YtpinoabhaaemfaaDoor.Abs
set_option linter.all false
set_option linter.unusedVariables false

inductive RS where
  | nil
  | own (f : Bool) (xs : List AV)
def RS.av (e sz : Nat) : RS → AV
  | .nil => .slice .nil 0 1 []
  | .own f xs => .slice (.own f) e sz xs
def RS.lv (e sz : Nat) : RS → AV
  | .nil => .slice .nil 0 1 []
  | .own f xs => .slice .hdr e sz xs
def RS.fv (e sz : Nat) : RS → AV
  | .nil => .slice .nil 0 1 []
  | .own f xs => .slice .frz e sz xs
def RS.sh : RS → RS
  | .nil => .nil
  | .own _ xs => .own false xs
def RS.l : RS → List AV
  | .nil => []
  | .own _ xs => xs
def RS.app : RS → List AV → RS
  | .nil, [] => .nil
  | .nil, l => .own true l
  | .own f l, m => .own f (l ++ m)
def RS.mk (l : List AV) : RS := RS.nil.app l

section
variable (e sz : Nat) (b : RS)
end
section
variable {e sz : Nat} {b : RS}
theorem RS.apV {h : H} {by' : Nat} {f : Bool} {ys : List AV} (hb : ((b.l.length + ys.length) / sz) * by' ≤ tooLong) (hl : b.l.length + ys.length ≤ tooLong) :
    Abs.apV h e sz by' false (b.av e sz) (.slice (.own f) e sz ys) = some ((b.app ys).av e sz) := by
  cases b with
  | nil =>
    simp only [RS.l, List.length_nil, Nat.zero_add] at hb hl
    cases ys with
    | nil => simp [Abs.apV, RS.av, moreV, RS.app]
    | cons y ys => simp only [List.length_cons] at hb hl; simp [Abs.apV, RS.av, moreV, RS.app, hb, hl]
  | own g xs =>
    simp only [RS.l] at hb hl
    simp [Abs.apV, RS.av, moreV, RS.app, hb, hl]
end
def rowsC (e : Nat) (ls : List (List UInt8)) : List AV := ls.map fun l => bAV e (some l)
@[simp] theorem rowsC_cons (e : Nat) (l : List UInt8) (ls : List (List UInt8)) : rowsC e (l :: ls) = bAV e (some l) :: rowsC e ls := rfl
@[simp] theorem rowsC_nil (e : Nat) : rowsC e [] = [] := rfl
def Ks.elems : Ks → List (List UInt8)
  | .nil => []
  | .cons nm v r => elemL nm v :: r.elems
end Go.Proofs.YtpinoabhaaemfaaDoor.Abs

/- Memories made one behind the other; rows of plain cells that are only read. -/
namespace Go.Proofs.YtpinoabhaaemfaaDoor.Abs
set_option linter.all false
set_option linter.unusedVariables false

def H.app (h : H) (os : List Obj) : H := ⟨h.base, h.l ++ os.map some, h.Γ⟩
@[simp] theorem H.Γ_app (h : H) (os : List Obj) : (h.app os).Γ = h.Γ := rfl
def ptrsF (n m : Nat) : List AV := (List.range m).map fun j => .ptr (.obj (n + (j + 1))) 0
@[simp] theorem ptrsF_zero (n : Nat) : ptrsF n 0 = [] := rfl
/-! ### Arrays of bytes in memory -/
theorem ex2_0 (a b : AV) : exV (.tup [a, b]) 0 = some (a, .tup [a.cls .left, b]) := rfl
theorem ex2_1 (a b : AV) : exV (.tup [a, b]) 1 = some (b, .tup [a, b.cls .left]) := rfl
end Go.Proofs.YtpinoabhaaemfaaDoor.Abs

/- What a contract's call leaves: nothing of the caller's turns; one new row of the heap. -/
namespace Go.Proofs.YtpinoabhaaemfaaDoor.Abs
set_option linter.all false
set_option linter.unusedVariables false
open Go Go.RowKit

variable {w w' : World} {G : Gh} {h0 : H}

def outω (G : Gh) : Nat → Pos := fun b => match G.ω b with | .box (.obj i) => .box (.obj i) | .cell (.obj i) c => .cell (.obj i) c | _ => .free
theorem outω_out {b : Nat} (h : outOwn (outω G) b) : outOwn G.ω b := by
  unfold outOwn at h ⊢
  simp only [outω] at h
  split at h
  · rename_i i hi; rw [hi]; rfl
  · rename_i i c hi; rw [hi]; rfl
  · cases h
theorem outω_at {i : Nat} {p : Pos} (hp : p = .box (.obj i) ∨ ∃ c, p = .cell (.obj i) c) {b : Nat} (hb : G.ω b = p) : outω G b = p := by
  rcases hp with rfl | ⟨c, rfl⟩ <;> simp only [outω, hb]
theorem kp_below (hb : Below w.heap.size w w') (D : Nat → Prop) : Kp w D w' := ⟨hb.os, hb.tape, hb.output, hb.size, fun b h _ => hb.block b h⟩

theorem post_same (hh : HR w G h0) (hlt : ∀ b, outOwn G.ω b → b < w.heap.size) (hfr : ∀ b, w.heap.size ≤ b → G.Fr b = 0) (hb : Below w.heap.size w w') {v : AV} {u : Value} (hu : TR w' ⟨G.Fr, fun _ => none, outω G⟩ .arg v u) :
    CallPost w G.Fr (outOwn G.ω) (v, h0) (.returned u) w' := by
  have hx : Ext w G.Fr w' G.Fr := ext_of_kp (kp_below hb fun _ => False) (fun _ h => h.elim) hfr
  refine ⟨u, G.Fr, outω G, rfl, kp_below hb _, hx, fun _ _ _ => rfl, fun b h => hfr b (Nat.le_trans hb.size h), hu, ?_, fun b ho => ⟨Nat.lt_of_lt_of_le (hlt b (outω_out ho)) hb.size, .inl (outω_out ho)⟩⟩
  exact HR.keeps (G := G) (G' := ⟨G.Fr, fun _ => none, outω G⟩) hx hh.ids (fun i p hp b hb' hl => ⟨hb.block b hl, rfl, outω_at hp hb'⟩) hh

theorem post_row (hh : HR w G h0) (hlt : ∀ b, outOwn G.ω b → b < w.heap.size) (hfr : ∀ b, w.heap.size ≤ b → G.Fr b = 0) (hb : Below w.heap.size w w') {e sz N n cap : Nat} {cs : List AV} {vs : Array Value} (hz : 0 < sz) (hN : N = cap * sz) (hcap : cap ≤ maxLen)
    (hnew : w'.heap[w.heap.size]? = some (.cells vs e (0, 0))) (hvs : vs.size = N) (hcs : cs.length ≤ N) (hm : ∃ m, cs.length = m * sz) (hc : ∀ c (h : c < cs.length) (h' : c < vs.size), (vs[c]).oneCell' = true ∧ CR w G.Fr cs[c] vs[c]) (hnc : n ≤ cap) :
    CallPost w G.Fr (outOwn G.ω) (.hsl h0.n 0 e sz n, h0.push (.row e sz (some N) cs)) (.returned (.slice (some ⟨w.heap.size, 0, none⟩) n cap)) w' := by
  have hx : Ext w G.Fr w' G.Fr := ext_of_kp (kp_below hb fun _ => False) (fun _ h => h.elim) hfr
  have hn0 := hh.ids h0.n (Nat.le_refl _)
  have hlt' : w.heap.size < w'.heap.size := by
    obtain ⟨h, _⟩ := Array.getElem?_eq_some_iff.1 hnew
    exact h
  let th : Th := ⟨w.heap.size, N, e, true⟩
  let G' : Gh := ⟨G.Fr.name h0.n th, fun _ => none, upd (outω G) w.heap.size (.box (.obj h0.n))⟩
  have hE : Ext w' G.Fr w' G'.Fr := Ext.name hn0 th
  have hxE : Ext w G.Fr w' G'.Fr := hx.trans hE
  have hne : ∀ b, b < w.heap.size → G'.ω b = outω G b := fun b hb' => upd_ne _ _ _ _ (by omega)
  refine ⟨_, G'.Fr, G'.ω, rfl, kp_below hb _, hxE, fun _ _ _ => rfl, fun b h => hfr b (Nat.le_trans hb.size h), TR_of_CR (.hsl h0.n 0 e sz n cap _ th (FT.name_same _ _ _) hz hnc fun _ => ⟨rfl, fun _ => by simp [th, hN]⟩), ⟨fun i ob hi => ?_, fun i hi => ?_, fun g xs hg => (hh.glob g xs hg).ext hxE⟩, fun b ho => ?_⟩
  · rw [H.get_push] at hi
    split at hi
    · rename_i hin
      subst hin
      injection hi with hi; subst hi
      refine ⟨th, FT.name_same _ _ _, by simp [G', th, upd], hlt', hfr _ (Nat.le_refl _), rfl, rfl, hz, ⟨⟨cap, hN, hcap⟩, fun N' h => by injection h⟩, hcs, hm, vs, hnew, hvs, fun c h h' => ⟨(hc c h h').1, (hc c h h').2.ext hxE⟩⟩
    · exact BoxR.keeps (G := G) (G' := G') hxE (fun t ht => hE.ids _ _ ht) (fun p hp b hb' hl => ⟨hb.block b hl, rfl, (hne b hl).trans (outω_at hp hb')⟩) (hh.box i ob hi)
  · rw [H.n_push] at hi
    show (G.Fr.name h0.n th).θ i = none
    rw [FT.name_ne _ _ _ _ (by omega)]; exact hh.ids i (by omega)
  · by_cases hbb : b = w.heap.size
    · subst hbb; exact ⟨hlt', .inr (Nat.le_refl _)⟩
    · have ho' : outOwn (outω G) b := by
        have : G'.ω b = outω G b := upd_ne _ _ _ _ hbb
        unfold outOwn at ho ⊢; rw [this] at ho; exact ho
      exact ⟨Nat.lt_of_lt_of_le (hlt b (outω_out ho')) hb.size, .inl (outω_out ho')⟩
end Go.Proofs.YtpinoabhaaemfaaDoor.Abs
