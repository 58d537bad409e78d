/- TR4, TR5, TR6 -/
import Derived.Test.YtpinoabhaaemfaaDoorA28
/- Texts read rune by rune: where there is no byte 0, no rune is 0. -/
namespace Go.Proofs.YtpinoabhaaemfaaDoor.Abs
set_option linter.all false
set_option linter.unusedVariables false

end Go.Proofs.YtpinoabhaaemfaaDoor.Abs

/- Rows of anything that are appended to. -/
namespace Go.Proofs.YtpinoabhaaemfaaDoor.Abs
set_option linter.all false
set_option linter.unusedVariables false

inductive RS where
  | nil
  | own (f : Bool) (xs : List AV)
def RS.av (e sz : Nat) : RS → AV
  | .nil => .slice .nil 0 1 []
  | .own f xs => .slice (.own f) e sz xs
def RS.lv (e sz : Nat) : RS → AV
  | .nil => .slice .nil 0 1 []
  | .own f xs => .slice .hdr e sz xs
def RS.fv (e sz : Nat) : RS → AV
  | .nil => .slice .nil 0 1 []
  | .own f xs => .slice .frz e sz xs
def RS.sh : RS → RS
  | .nil => .nil
  | .own _ xs => .own false xs
def RS.l : RS → List AV
  | .nil => []
  | .own _ xs => xs
def RS.app : RS → List AV → RS
  | .nil, [] => .nil
  | .nil, l => .own true l
  | .own f l, m => .own f (l ++ m)
def RS.mk (l : List AV) : RS := RS.nil.app l

section
variable (e sz : Nat) (b : RS)
end
section
variable {e sz : Nat} {b : RS}
theorem RS.apV {h : H} {by' : Nat} {f : Bool} {ys : List AV} (hb : ((b.l.length + ys.length) / sz) * by' ≤ tooLong) (hl : b.l.length + ys.length ≤ tooLong) :
    Abs.apV h e sz by' false (b.av e sz) (.slice (.own f) e sz ys) = some ((b.app ys).av e sz) := by
  cases b with
  | nil =>
    simp only [RS.l, List.length_nil, Nat.zero_add] at hb hl
    cases ys with
    | nil => simp [Abs.apV, RS.av, moreV, RS.app]
    | cons y ys => simp only [List.length_cons] at hb hl; simp [Abs.apV, RS.av, moreV, RS.app, hb, hl]
  | own g xs =>
    simp only [RS.l] at hb hl
    simp [Abs.apV, RS.av, moreV, RS.app, hb, hl]
end
def rowsC (e : Nat) (ls : List (List UInt8)) : List AV := ls.map fun l => bAV e (some l)
@[simp] theorem rowsC_cons (e : Nat) (l : List UInt8) (ls : List (List UInt8)) : rowsC e (l :: ls) = bAV e (some l) :: rowsC e ls := rfl
@[simp] theorem rowsC_nil (e : Nat) : rowsC e [] = [] := rfl
def Ks.elems : Ks → List (List UInt8)
  | .nil => []
  | .cons nm v r => elemL nm v :: r.elems
end Go.Proofs.YtpinoabhaaemfaaDoor.Abs

/- Memories made one behind the other; rows of plain cells that are only read. -/
namespace Go.Proofs.YtpinoabhaaemfaaDoor.Abs
set_option linter.all false
set_option linter.unusedVariables false

def H.app (h : H) (os : List Obj) : H := ⟨h.base, h.l ++ os.map some, h.Γ⟩
@[simp] theorem H.Γ_app (h : H) (os : List Obj) : (h.app os).Γ = h.Γ := rfl
def ptrsF (n m : Nat) : List AV := (List.range m).map fun j => .ptr (.obj (n + (j + 1))) 0
@[simp] theorem ptrsF_zero (n : Nat) : ptrsF n 0 = [] := rfl
/-! ### Arrays of bytes in memory -/
theorem ex2_0 (a b : AV) : exV (.tup [a, b]) 0 = some (a, .tup [a.cls .left, b]) := rfl
theorem ex2_1 (a b : AV) : exV (.tup [a, b]) 1 = some (b, .tup [a, b.cls .left]) := rfl
end Go.Proofs.YtpinoabhaaemfaaDoor.Abs
