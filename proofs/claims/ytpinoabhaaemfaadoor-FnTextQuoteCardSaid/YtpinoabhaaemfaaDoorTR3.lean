/- TR2, TR3 -/
import Derived.Test.YtpinoabhaaemfaaDoorTR1
/- Rows of bytes that are appended to. -/
namespace Go.Proofs.YtpinoabhaaemfaaDoor.Abs
set_option linter.all false
set_option linter.unusedVariables false

inductive BS where
  | nil
  | own (f : Bool) (l : List UInt8)

def BS.av (e : Nat) : BS → AV
  | .nil => .slice .nil 0 1 []
  | .own f l => .slice (.own f) e 1 (byteCells l)
def BS.lv (e : Nat) : BS → AV
  | .nil => .slice .nil 0 1 []
  | .own f l => .slice .hdr e 1 (byteCells l)
def BS.opt : BS → Option (List UInt8)
  | .nil => none
  | .own _ l => some l
def BS.sh : BS → BS
  | .nil => .nil
  | .own _ l => .own false l
def BS.l : BS → List UInt8
  | .nil => []
  | .own _ l => l
def BS.app : BS → List UInt8 → BS
  | .nil, [] => .nil
  | .nil, l => .own true l
  | .own f l, m => .own f (l ++ m)
def BS.mk (l : List UInt8) : BS := BS.nil.app l

section
variable (e : Nat) (b : BS)
end

inductive Bytes (e : Nat) : AV → List UInt8 → Prop
  | b (o : Option (List UInt8)) : Bytes e (bAV e o) (bl o)
  | s (b : BS) : Bytes e (b.av e) b.l
  | lit (f : Bool) (xs : List AV) (l : List UInt8) (h : xs = byteCells l) : Bytes e (.slice (.own f) e 1 xs) l

theorem apV_bytes {hp : H} {e : Nat} (b : BS) {x : AV} {ys : List UInt8} (hx : Bytes e x ys) (h : b.l.length + ys.length ≤ tooLong) : apV hp e 1 1 false (b.av e) x = some ((b.app ys).av e) := by
  have hm : moreV hp 1 false x = some (byteCells ys) := by
    cases hx with
    | b o => cases o <;> simp [bAV, moreV, bl, byteCells]
    | s b => cases b <;> simp [BS.av, moreV, BS.l, byteCells]
    | lit f xs l h => subst h; simp [moreV]
  cases b with
  | nil =>
    simp only [BS.l, List.length_nil, Nat.zero_add] at h
    cases ys with
    | nil => simp [apV, BS.av, hm, BS.app, byteCells, tooLong]
    | cons c ys => simp [apV, BS.av, hm, BS.app, byteCells] at h ⊢; simp [tooLong] at h ⊢; omega
  | own f l =>
    simp only [BS.l] at h
    simp [apV, BS.av, hm, BS.app, byteCells_append]
    omega
theorem apV_str {hp : H} {e : Nat} (b : BS) (s : List UInt8) (h : b.l.length + s.length ≤ tooLong) : apV hp e 1 1 true (b.av e) (.str s) = some ((b.app s).av e) := by
  cases b with
  | nil =>
    simp only [BS.l, List.length_nil, Nat.zero_add] at h
    cases s with
    | nil => simp [apV, BS.av, moreV, BS.app, byteCells, tooLong]
    | cons c s => simp [apV, BS.av, moreV, BS.app, byteCells] at h ⊢; simp [tooLong] at h ⊢; omega
  | own f l =>
    simp only [BS.l] at h
    simp [apV, BS.av, moreV, BS.app, byteCells_append]
    omega

section
variable {hp : H} {e : Nat} {b : BS}
theorem apV_lit {f g : Bool} {xs : List AV} {l m : List UInt8} (hx : xs = byteCells m) (h : l.length + m.length ≤ tooLong) : apV hp e 1 1 false (.slice (.own g) e 1 (byteCells l)) (.slice (.own f) e 1 xs) = some (.slice (.own g) e 1 (byteCells (l ++ m))) := apV_bytes (.own g l) (.lit f xs m hx) h
end

end Go.Proofs.YtpinoabhaaemfaaDoor.Abs

/- Numbers read from bytes, the lowest byte first. -/
namespace Go.Proofs.YtpinoabhaaemfaaDoor.Abs
set_option linter.all false
set_option linter.unusedVariables false

def rd32 (a b c d : UInt8) : Int := IntKind.i32.wrap (a.toNat + 256 * b.toNat + 65536 * c.toNat + 16777216 * d.toNat)

/-! ### The law's plain part -/
/-! ### Numbers of 64 bits -/
def rd64 (a b c d e f g h : UInt8) : Int := IntKind.i64.wrap (a.toNat + 2 ^ 8 * b.toNat + 2 ^ 16 * c.toNat + 2 ^ 24 * d.toNat + 2 ^ 32 * e.toNat + 2 ^ 40 * f.toNat + 2 ^ 48 * g.toNat + 2 ^ 56 * h.toNat)
/-! ### Few, right and short -/
def Tr.sz (v : Tr) : Nat := v.nb + 18 * v.nodes
def Ks.sz (ks : Ks) : Nat := ks.nb + 18 * ks.nodes
def Tr.fine (v : Tr) (c b : Nat) : Bool := decide (v.count c ≤ c) && (v.right 200 && decide (IntKind.i64.wrap v.nb ≤ b))
def Ks.tr (ks : Ks) (kn : Bool) : Tr := .mk 3 [] [] 0 0 0 none kn ks
end Go.Proofs.YtpinoabhaaemfaaDoor.Abs
