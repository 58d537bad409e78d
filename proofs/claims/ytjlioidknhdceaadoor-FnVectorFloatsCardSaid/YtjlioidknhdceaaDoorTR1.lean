/- Values of BSON as trees: how they lie, how many they are, whether they are right, and their bytes. -/
import Derived.Test.YtjlioidknhdceaaDoorA27
namespace Go.Proofs.YtjlioidknhdceaaDoor.Abs
set_option linter.all false
set_option linter.unusedVariables false

mutual
inductive Tr where
  | mk (k : Int) (t m : List UInt8) (n bi hi : Int) (b : Option (List UInt8)) (kn : Bool) (ks : Ks)
inductive Ks where
  | nil
  | cons (nm : List UInt8) (v : Tr) (r : Ks)
end

def oAV (e : Nat) (l : List UInt8) : AV := if l = [] then .slice .nil 0 1 [] else .slice (.own true) e 1 (byteCells l)

section
variable (eB eE : Nat)
mutual
def Tr.cells : Tr → List AV
  | .mk k t m n bi hi b kn ks => [.int .i64 k, .str t, .str m, .int .i64 n, .int .u64 bi, .int .u64 hi, bAV eB b, Ks.av ks kn]
def Ks.av : Ks → Bool → AV
  | .nil, kn => if kn then .slice .nil 0 1 [] else .slice .frz eE 9 []
  | .cons nm v r, _ => .slice .frz eE 9 (.str nm :: (Tr.cells v ++ Ks.flat r))
def Ks.flat : Ks → List AV
  | .nil => []
  | .cons nm v r => .str nm :: (Tr.cells v ++ Ks.flat r)
end
def Tr.av (v : Tr) : AV := .agg (v.cells eB eE)
def eAV (nm : List UInt8) (v : Tr) : AV := .agg (.str nm :: v.cells eB eE)

@[simp] theorem Tr.cells_length (v : Tr) : (v.cells eB eE).length = 8 := by cases v; simp [Tr.cells]
end

def Ks.len : Ks → Nat
  | .nil => 0
  | .cons _ _ r => r.len + 1
def Ks.app : Ks → Ks → Ks
  | .nil, r => r
  | .cons nm v s, r => .cons nm v (s.app r)
theorem Ks.app_nil : ∀ (a : Ks), a.app .nil = a
  | .nil => rfl
  | .cons nm v s => by simp [Ks.app, Ks.app_nil s]
section
variable (eB eE : Nat)
theorem Ks.flat_length : ∀ (a : Ks), (a.flat eB eE).length = 9 * a.len
  | .nil => by simp [Ks.flat, Ks.len]
  | .cons nm v s => by simp [Ks.flat, Ks.len, Ks.flat_length s, Tr.cells_length]; omega

theorem Ks.av_cases (ks : Ks) (kn : Bool) : (ks = .nil ∧ kn = true ∧ Ks.av eB eE ks kn = .slice .nil 0 1 []) ∨ (Ks.av eB eE ks kn = .slice .frz eE 9 (ks.flat eB eE)) := by
  cases ks with
  | nil => cases kn <;> simp [Ks.av, Ks.flat]
  | cons nm v r => right; simp [Ks.av, Ks.flat]
@[simp] theorem Ks.av_len (ks : Ks) (kn : Bool) : aLen false (Ks.av eB eE ks kn) = some (.int .i64 ks.len) := by
  rcases Ks.av_cases eB eE ks kn with ⟨rfl, rfl, h⟩ | h
  · rw [h]; simp [Ks.len]
  · rw [h]; simp [Ks.flat_length]
@[simp] theorem Ks.av_gv (ks : Ks) (kn : Bool) : gvV (Ks.av eB eE ks kn) = Ks.av eB eE ks kn := by rcases Ks.av_cases eB eE ks kn with ⟨_, _, h⟩ | h <;> rw [h] <;> rfl
@[simp] theorem Ks.av_lf (ks : Ks) (kn : Bool) : lfV (Ks.av eB eE ks kn) = Ks.av eB eE ks kn := by rcases Ks.av_cases eB eE ks kn with ⟨_, _, h⟩ | h <;> rw [h] <;> rfl
@[simp] theorem Ks.av_plain (ks : Ks) (kn : Bool) : (Ks.av eB eE ks kn).plain = true := by rcases Ks.av_cases eB eE ks kn with ⟨_, _, h⟩ | h <;> rw [h] <;> rfl
@[simp] theorem Ks.av_cells (ks : Ks) (kn : Bool) : (Ks.av eB eE ks kn).cells = [Ks.av eB eE ks kn] := by rcases Ks.av_cases eB eE ks kn with ⟨_, _, h⟩ | h <;> rw [h] <;> rfl
end

/-! ### What is known of what was read -/
mutual
def Tr.wf : Tr → Prop
  | .mk k t m n bi hi b _ ks => IntKind.i64.min ≤ k ∧ k ≤ IntKind.i64.max ∧ t.length ≤ reachBytes ∧ m.length ≤ reachBytes ∧ IntKind.i64.min ≤ n ∧ n ≤ IntKind.i64.max ∧ IntKind.u64.min ≤ bi ∧ bi ≤ IntKind.u64.max ∧ IntKind.u64.min ≤ hi ∧ hi ≤ IntKind.u64.max ∧ (bl b).length ≤ reachBytes ∧ Ks.len ks ≤ reachBytes ∧ Ks.wf ks
def Ks.wf : Ks → Prop
  | .nil => True
  | .cons nm v r => nm.length ≤ reachBytes ∧ Tr.wf v ∧ Ks.wf r
end

/-! ### How many, how long -/
mutual
def Tr.count : Tr → Int → Int
  | .mk _ _ _ _ _ _ _ _ ks, most => Ks.count ks 1 most
def Ks.count : Ks → Int → Int → Int
  | .nil, n, _ => n
  | .cons _ v r, n, most => if n ≤ most then Ks.count r (n + Tr.count v (most - n)) most else n
end
mutual
def Tr.nodes : Tr → Nat
  | .mk _ _ _ _ _ _ _ _ ks => 1 + Ks.nodes ks
def Ks.nodes : Ks → Nat
  | .nil => 0
  | .cons _ v r => Tr.nodes v + Ks.nodes r
end
mutual
def Tr.nb : Tr → Nat
  | .mk _ t m _ _ _ b _ ks => t.length + m.length + (bl b).length + Ks.nb ks
def Ks.nb : Ks → Nat
  | .nil => 0
  | .cons nm v r => nm.length + Tr.nb v + Ks.nb r
end

/-! ### Right values -/
def plainL : List UInt8 → Bool
  | [] => true
  | c :: r => if c = 0 then false else plainL r

def digL (n : Nat) : List UInt8 :=
  if n < 10 then [UInt8.ofNat (48 + n)] else digL (n / 10) ++ [UInt8.ofNat (48 + n % 10)]

def knownK (k : Int) : Bool := (decide (1 ≤ k) && decide (k ≤ 19)) || k == 255 || k == 127

/-! A value's fields, those that its kind names emptied. -/
def bareT (k : Int) (t : List UInt8) : List UInt8 := if k = 2 ∨ k = 13 ∨ k = 14 ∨ k = 11 ∨ k = 12 ∨ k = 15 then [] else t
def bareM (k : Int) (m : List UInt8) : List UInt8 := if k = 11 then [] else m
def bareN (k n : Int) : Int := if k = 5 ∨ k = 8 ∨ k = 9 ∨ k = 16 ∨ k = 18 then 0 else n
def bareL (k n : Int) : Int := if k = 1 ∨ k = 17 ∨ k = 19 then 0 else n
def bareH (k n : Int) : Int := if k = 19 then 0 else n
def bareB (k : Int) (b : Option (List UInt8)) : Option (List UInt8) := if k = 5 ∨ k = 7 ∨ k = 12 then none else b
def bareK (k : Int) (ks : Ks) : Ks := if k = 3 ∨ k = 4 ∨ k = 15 then .nil else ks
def bareKn (k : Int) (kn : Bool) : Bool := if k = 3 ∨ k = 4 ∨ k = 15 then true else kn
def bareOk (k : Int) (t m : List UInt8) (n bi hi : Int) (b : Option (List UInt8)) (ks : Ks) : Bool :=
  (bareT k t).isEmpty && ((bareM k m).isEmpty && (decide (bareN k n = 0) && (decide (bareL k bi = 0) && (decide (bareH k hi = 0) && (decide ((bl (bareB k b)).length = 0) && decide ((bareK k ks).len = 0))))))

mutual
def Tr.right : Tr → Nat → Bool
  | .mk k t m n bi hi b _ ks, d => knownK k && (d != 0 && (bareOk k t m n bi hi b ks &&
    (if k = 5 then decide (0 ≤ n) && decide (n ≤ 255)
     else if k = 7 ∨ k = 12 then decide ((bl b).length = 12)
     else if k = 8 then decide (n = 0) || decide (n = 1)
     else if k = 16 then decide (-2147483648 ≤ n) && decide (n < 2147483648)
     else if k = 11 then plainL t && plainL m
     else Ks.right ks (k == 4) 0 (d - 1))))
def Ks.right : Ks → Bool → Nat → Nat → Bool
  | .nil, _, _, _ => true
  | .cons nm v r, arr, i, d => plainL nm && (!(arr && nm != digL i) && (Tr.right v d && Ks.right r arr (i + 1) d))
end

/-! ### Bytes -/
def byteOf (n : Int) : UInt8 := UInt8.ofNat (n % 256).toNat
def le32 (n : Int) : List UInt8 := [byteOf n, byteOf (n / 256), byteOf (n / 65536), byteOf (n / 16777216)]
def le64 (n : Int) : List UInt8 := [byteOf n, byteOf (n / 2^8), byteOf (n / 2^16), byteOf (n / 2^24), byteOf (n / 2^32), byteOf (n / 2^40), byteOf (n / 2^48), byteOf (n / 2^56)]
def txtL (s : List UInt8) : List UInt8 := le32 (s.length + 1) ++ (s ++ [0])
def hdL (k : Int) (nm : List UInt8) : List UInt8 := byteOf k :: (nm ++ [0])

mutual
def Tr.val : Tr → List UInt8
  | .mk k t m n bi hi b _ ks =>
    if k = 1 ∨ k = 17 then le64 bi
    else if k = 2 ∨ k = 13 ∨ k = 14 then txtL t
    else if k = 3 ∨ k = 4 then le32 ((Ks.body ks).length + 5) ++ (Ks.body ks ++ [0])
    else if k = 5 then (if n = 2 then le32 ((bl b).length + 4) ++ (2 :: (le32 (bl b).length ++ bl b)) else le32 (bl b).length ++ (byteOf n :: bl b))
    else if k = 7 then bl b
    else if k = 8 then [byteOf n]
    else if k = 9 ∨ k = 18 then le64 n
    else if k = 16 then le32 n
    else if k = 11 then t ++ (0 :: (m ++ [0]))
    else if k = 12 then txtL t ++ bl b
    else if k = 15 then le32 (4 + (txtL t).length + ((Ks.body ks).length + 5)) ++ (txtL t ++ (le32 ((Ks.body ks).length + 5) ++ (Ks.body ks ++ [0])))
    else if k = 19 then le64 bi ++ le64 hi
    else []
def Ks.body : Ks → List UInt8
  | .nil => []
  | .cons nm v r => byteOf (Tr.kind v) :: (nm ++ (0 :: Tr.val v)) ++ Ks.body r
def Tr.kind : Tr → Int
  | .mk k _ _ _ _ _ _ _ _ => k
end
def Ks.doc (ks : Ks) : List UInt8 := le32 (ks.body.length + 5) ++ (ks.body ++ [0])
def elemL (nm : List UInt8) (v : Tr) : List UInt8 := hdL v.kind nm ++ v.val

theorem le32_length (n : Int) : (le32 n).length = 4 := rfl
end Go.Proofs.YtjlioidknhdceaaDoor.Abs
