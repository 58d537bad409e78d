/- What bytes say of values and elements, whatever they are: lengths, ends, elements one behind the other. -/
import Derived.Test.YtjlioidknhdceaaDoorTR6
namespace Go.Proofs.YtjlioidknhdceaaDoor.Abs
set_option linter.all false

def num32 : List UInt8 → Int
  | a :: b :: c :: d :: _ => rd32 a b c d
  | _ => 0
def nul : List UInt8 → Option Nat
  | [] => none
  | c :: r => if c = 0 then some 0 else (nul r).map (· + 1)
def lenD (d : Int) (l : List UInt8) : Option Nat := if 4 ≤ l.length ∧ 0 ≤ num32 l ∧ num32 l + d < 2147483648 then some (num32 l + d).toNat else none
def rxLen (l : List UInt8) : Option Nat := (nul l).bind fun i => (nul (l.drop (i + 1))).map fun j => i + 1 + j + 1
def vLen (k : Int) (l : List UInt8) : Option Nat :=
  if k = 3 ∨ k = 4 ∨ k = 15 then lenD 0 l else if k = 5 then lenD 5 l else if k = 12 then lenD 16 l else if k = 13 ∨ k = 2 ∨ k = 14 then lenD 4 l
  else if k = 8 then some 1 else if k = 9 ∨ k = 1 ∨ k = 18 ∨ k = 17 then some 8 else if k = 19 then some 16 else if k = 16 then some 4
  else if k = 127 ∨ k = 255 ∨ k = 10 ∨ k = 6 then some 0 else if k = 7 then some 12 else if k = 11 then rxLen l else none
def vGet (k : Int) (l : List UInt8) : Option Nat := (vLen k l).bind fun n => if n ≤ l.length then some n else none
def eGet : List UInt8 → Option Nat
  | [] => none
  | t :: r => (nul r).bind fun i => (vLen t.toNat (r.drop (i + 1))).bind fun n => if i + 2 + n ≤ r.length + 1 then some (i + 2 + n) else none
def eParts : List UInt8 → Option (UInt8 × List UInt8 × List UInt8)
  | [] => none
  | t :: r => (nul r).map fun i => (t, r.take i, r.drop (i + 1))
def eOk (l : List UInt8) : Bool :=
  match eParts l with
  | some (k, _, d) => (vGet k.toNat d).isSome
  | none => false
def kv (e : List UInt8) : Int × List UInt8 :=
  match eParts e with
  | some (t, _, d) => ((t.toNat : Int), d)
  | none => (0, [])
def kvC (eB : Nat) (e : List UInt8) : List AV := [.int .u8 (kv e).1, bAV eB (some (kv e).2)]
def valsC (eB : Nat) (es : List (List UInt8)) : List AV := es.flatMap (kvC eB)
def elemsR : Nat → Int → List UInt8 → List (List UInt8) × Bool
  | 0, _, _ => ([], true)
  | f + 1, n, l => if n ≤ 1 then ([], true) else match eGet l with
    | none => ([], false)
    | some m => if eOk (l.take m) then (l.take m :: (elemsR f (n - m) (l.drop m)).1, (elemsR f (n - m) (l.drop m)).2) else ([], false)
def eDat (e : List UInt8) : Option (List UInt8) := match eParts e with | some (_, _, d) => some d | none => none
def elemsE (inv : List UInt8 → Option (List UInt8)) (o : Option (List UInt8)) : Nat → Int → List UInt8 → Option (List UInt8) × Option (List UInt8)
  | 0, _, _ => (none, none)
  | f + 1, n, l => if n ≤ 1 then (none, none) else match eGet l with
    | none => (o, some l)
    | some m => if eOk (l.take m) then elemsE inv o f (n - m) (l.drop m) else (inv (l.take m), inv (l.take m))
def elemsT : Nat → Int → List UInt8 → List UInt8
  | 0, _, l => l
  | f + 1, n, l => if n ≤ 1 then l else match eGet l with
    | none => l
    | some m => if eOk (l.take m) then elemsT f (n - m) (l.drop m) else l
def elemAt : Nat → Int → List UInt8 → Nat → Nat × List UInt8
  | 0, _, _, _ => (2, [])
  | f + 1, n, l, k => if n ≤ 1 then (2, []) else match eGet l with
    | none => (1, l)
    | some m => (match k with
      | 0 => (0, l.take m)
      | k + 1 => elemAt f (n - m) (l.drop m) k)

def oB (l : List UInt8) : Option (List UInt8) := (BS.mk l).opt
def rawsC (eB : Nat) (es : List (List UInt8)) : List AV := es.flatMap fun e => [.int .i64 (kv e).1, bAV eB (oB (kv e).2)]
end Go.Proofs.YtjlioidknhdceaaDoor.Abs
