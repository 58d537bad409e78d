/- TR1, TR2, TR3, A28 -/
import Derived.Test.YtdnfnobgeddbfaaGreatDoorA27
/- Values of BSON as trees: how they lie, how many they are, whether they are right, and their bytes. -/
namespace Go.Proofs.YtdnfnobgeddbfaaGreatDoor.Abs
set_option linter.all false
set_option linter.unusedVariables false

mutual
inductive Tr where
  | mk (k : Int) (t m : List UInt8) (n bi hi : Int) (b : Option (List UInt8)) (kn : Bool) (ks : Ks)
inductive Ks where
  | nil
  | cons (nm : List UInt8) (v : Tr) (r : Ks)
end

def oAV (e : Nat) (l : List UInt8) : AV := if l = [] then .slice .nil 0 1 [] else .slice (.own true) e 1 (byteCells l)

section
variable (eB eE : Nat)
mutual
def Tr.cells : Tr → List AV
  | .mk k t m n bi hi b kn ks => [.int .i64 k, .str t, .str m, .int .i64 n, .int .u64 bi, .int .u64 hi, bAV eB b, Ks.av ks kn]
def Ks.av : Ks → Bool → AV
  | .nil, kn => if kn then .slice .nil 0 1 [] else .slice .frz eE 9 []
  | .cons nm v r, _ => .slice .frz eE 9 (.str nm :: (Tr.cells v ++ Ks.flat r))
def Ks.flat : Ks → List AV
  | .nil => []
  | .cons nm v r => .str nm :: (Tr.cells v ++ Ks.flat r)
end
def Tr.av (v : Tr) : AV := .agg (v.cells eB eE)
def eAV (nm : List UInt8) (v : Tr) : AV := .agg (.str nm :: v.cells eB eE)

@[simp] theorem Tr.cells_length (v : Tr) : (v.cells eB eE).length = 8 := by cases v; simp [Tr.cells]
end

@[simp] theorem bAV_gvm (e : Nat) (o : Option (List UInt8)) : gvV (bAV e o) = bAV e o := bAV_gv e o
def Ks.len : Ks → Nat
  | .nil => 0
  | .cons _ _ r => r.len + 1
def Ks.app : Ks → Ks → Ks
  | .nil, r => r
  | .cons nm v s, r => .cons nm v (s.app r)
theorem Ks.app_nil : ∀ (a : Ks), a.app .nil = a
  | .nil => rfl
  | .cons nm v s => by simp [Ks.app, Ks.app_nil s]
theorem Ks.app_assoc : ∀ (a b c : Ks), (a.app b).app c = a.app (b.app c)
  | .nil, b, c => rfl
  | .cons nm v s, b, c => by simp [Ks.app, Ks.app_assoc s b c]
theorem Ks.len_app : ∀ (a b : Ks), (a.app b).len = a.len + b.len
  | .nil, b => by simp [Ks.app, Ks.len]
  | .cons nm v s, b => by simp [Ks.app, Ks.len, Ks.len_app s b]; omega

section
variable (eB eE : Nat)
theorem Ks.flat_app : ∀ (a b : Ks), (a.app b).flat eB eE = a.flat eB eE ++ b.flat eB eE
  | .nil, b => by simp [Ks.app, Ks.flat]
  | .cons nm v s, b => by simp [Ks.app, Ks.flat, Ks.flat_app s b]
theorem Ks.flat_length : ∀ (a : Ks), (a.flat eB eE).length = 9 * a.len
  | .nil => by simp [Ks.flat, Ks.len]
  | .cons nm v s => by simp [Ks.flat, Ks.len, Ks.flat_length s, Tr.cells_length]; omega

theorem Ks.av_cases (ks : Ks) (kn : Bool) : (ks = .nil ∧ kn = true ∧ Ks.av eB eE ks kn = .slice .nil 0 1 []) ∨ (Ks.av eB eE ks kn = .slice .frz eE 9 (ks.flat eB eE)) := by
  cases ks with
  | nil => cases kn <;> simp [Ks.av, Ks.flat]
  | cons nm v r => right; simp [Ks.av, Ks.flat]
@[simp] theorem Ks.av_len (ks : Ks) (kn : Bool) : aLen false (Ks.av eB eE ks kn) = some (.int .i64 ks.len) := by
  rcases Ks.av_cases eB eE ks kn with ⟨rfl, rfl, h⟩ | h
  · rw [h]; simp [Ks.len]
  · rw [h]; simp [Ks.flat_length]
@[simp] theorem Ks.av_gv (ks : Ks) (kn : Bool) : gvV (Ks.av eB eE ks kn) = Ks.av eB eE ks kn := by rcases Ks.av_cases eB eE ks kn with ⟨_, _, h⟩ | h <;> rw [h] <;> rfl
@[simp] theorem Ks.av_hd (ks : Ks) (kn : Bool) : hdV (Ks.av eB eE ks kn) = Ks.av eB eE ks kn := by rcases Ks.av_cases eB eE ks kn with ⟨_, _, h⟩ | h <;> rw [h] <;> rfl
@[simp] theorem Ks.av_lf (ks : Ks) (kn : Bool) : lfV (Ks.av eB eE ks kn) = Ks.av eB eE ks kn := by rcases Ks.av_cases eB eE ks kn with ⟨_, _, h⟩ | h <;> rw [h] <;> rfl
@[simp] theorem Ks.av_left (ks : Ks) (kn : Bool) : (Ks.av eB eE ks kn).cls .left = Ks.av eB eE ks kn := by rcases Ks.av_cases eB eE ks kn with ⟨_, _, h⟩ | h <;> rw [h] <;> rfl
@[simp] theorem Ks.av_cpV (m : Mode) (ks : Ks) (kn : Bool) : cpV m (Ks.av eB eE ks kn) = Ks.av eB eE ks kn := by rcases Ks.av_cases eB eE ks kn with ⟨_, _, h⟩ | h <;> rw [h] <;> cases m <;> rfl
@[simp] theorem Ks.av_cpS (m : Mode) (ks : Ks) (kn : Bool) : cpS m (Ks.av eB eE ks kn) = Ks.av eB eE ks kn := by rcases Ks.av_cases eB eE ks kn with ⟨_, _, h⟩ | h <;> rw [h] <;> cases m <;> rfl
@[simp] theorem Ks.av_plain (ks : Ks) (kn : Bool) : (Ks.av eB eE ks kn).plain = true := by rcases Ks.av_cases eB eE ks kn with ⟨_, _, h⟩ | h <;> rw [h] <;> rfl
@[simp] theorem Ks.av_cells (ks : Ks) (kn : Bool) : (Ks.av eB eE ks kn).cells = [Ks.av eB eE ks kn] := by rcases Ks.av_cases eB eE ks kn with ⟨_, _, h⟩ | h <;> rw [h] <;> rfl
@[simp] theorem Ks.av_several (ks : Ks) (kn : Bool) : (Ks.av eB eE ks kn).several = false := by rcases Ks.av_cases eB eE ks kn with ⟨_, _, h⟩ | h <;> rw [h] <;> rfl
@[simp] theorem Ks.av_kill (t : Nat) (ks : Ks) (kn : Bool) : (Ks.av eB eE ks kn).kill t = Ks.av eB eE ks kn := by rcases Ks.av_cases eB eE ks kn with ⟨_, _, h⟩ | h <;> rw [h] <;> rfl
@[simp] theorem Ks.av_lenV (ks : Ks) (kn : Bool) : lenV (Ks.av eB eE ks kn) = some (ks.len : Int) := by
  rcases Ks.av_cases eB eE ks kn with ⟨rfl, rfl, h⟩ | h
  · rw [h]; simp [Ks.len]
  · rw [h]; simp [Ks.flat_length]
@[simp] theorem Tr.cells_gv (v : Tr) : (v.cells eB eE).map gvV = v.cells eB eE := by
  cases v; simp [Tr.cells]
@[simp] theorem Tr.cells_take (v : Tr) : (v.cells eB eE).take 8 = v.cells eB eE := by
  rw [List.take_of_length_le]; rw [Tr.cells_length]; exact Nat.le_refl _
theorem Ks.av_ix (pre r : Ks) (nm : List UInt8) (v : Tr) (kn : Bool) : ixV 9 (Ks.av eB eE (pre.app (.cons nm v r)) kn) (.int .i64 pre.len) = some (.eptr (.str nm :: (v.cells eB eE ++ r.flat eB eE))) := by
  rcases Ks.av_cases eB eE (pre.app (.cons nm v r)) kn with ⟨h, _, _⟩ | h
  · cases pre <;> simp [Ks.app] at h
  · rw [h]
    have h1 : (((Ks.flat eB eE (pre.app (.cons nm v r))).length / 9 : Nat) : Int) = pre.len + (r.len + 1) := by
      rw [Ks.flat_length, Ks.len_app]; simp [Ks.len]
    have h2 : (Ks.flat eB eE (pre.app (.cons nm v r))).drop (pre.len * 9) = .str nm :: (v.cells eB eE ++ r.flat eB eE) := by
      rw [Ks.flat_app, List.drop_append, show pre.len * 9 = (pre.flat eB eE).length by rw [Ks.flat_length]; omega]
      simp [Ks.flat]
    have hc : Cls.frz = .frz ∧ 9 = 9 ∧ (0 : Int) ≤ (pre.len : Int) ∧ (pre.len : Int) < (((Ks.flat eB eE (pre.app (.cons nm v r))).length / 9 : Nat) : Int) := ⟨rfl, rfl, by omega, by rw [h1]; omega⟩
    show (if Cls.frz = .frz ∧ 9 = 9 ∧ (0 : Int) ≤ (pre.len : Int) ∧ (pre.len : Int) < (((Ks.flat eB eE (pre.app (cons nm v r))).length / 9 : Nat) : Int) then _ else none) = _
    rw [if_pos hc, Int.toNat_natCast, h2]
end

/-! ### What is known of what was read -/
mutual
def Tr.wf : Tr → Prop
  | .mk k t m n bi hi b _ ks => IntKind.i64.min ≤ k ∧ k ≤ IntKind.i64.max ∧ t.length ≤ reachBytes ∧ m.length ≤ reachBytes ∧ IntKind.i64.min ≤ n ∧ n ≤ IntKind.i64.max ∧ IntKind.u64.min ≤ bi ∧ bi ≤ IntKind.u64.max ∧ IntKind.u64.min ≤ hi ∧ hi ≤ IntKind.u64.max ∧ (bl b).length ≤ reachBytes ∧ Ks.len ks ≤ reachBytes ∧ Ks.wf ks
def Ks.wf : Ks → Prop
  | .nil => True
  | .cons nm v r => nm.length ≤ reachBytes ∧ Tr.wf v ∧ Ks.wf r
end

/-! ### How many, how long -/
mutual
def Tr.count : Tr → Int → Int
  | .mk _ _ _ _ _ _ _ _ ks, most => Ks.count ks 1 most
def Ks.count : Ks → Int → Int → Int
  | .nil, n, _ => n
  | .cons _ v r, n, most => if n ≤ most then Ks.count r (n + Tr.count v (most - n)) most else n
end
mutual
def Tr.nodes : Tr → Nat
  | .mk _ _ _ _ _ _ _ _ ks => 1 + Ks.nodes ks
def Ks.nodes : Ks → Nat
  | .nil => 0
  | .cons _ v r => Tr.nodes v + Ks.nodes r
end
mutual
def Tr.nb : Tr → Nat
  | .mk _ t m _ _ _ b _ ks => t.length + m.length + (bl b).length + Ks.nb ks
def Ks.nb : Ks → Nat
  | .nil => 0
  | .cons nm v r => nm.length + Tr.nb v + Ks.nb r
end

mutual
theorem Tr.count_le : ∀ (v : Tr) (most : Int), 0 ≤ most → 1 ≤ v.count most ∧ v.count most ≤ most + 1
  | .mk _ _ _ _ _ _ _ _ ks, most, h => by
    simp only [Tr.count]
    have := Ks.count_le ks 1 most (by omega) (by omega)
    exact ⟨this.1, this.2⟩
theorem Ks.count_le : ∀ (ks : Ks) (n most : Int), 1 ≤ n → n ≤ most + 1 → n ≤ ks.count n most ∧ ks.count n most ≤ most + 1
  | .nil, n, most, h, h' => by simp only [Ks.count]; omega
  | .cons nm v r, n, most, h, h' => by
    simp only [Ks.count]
    split
    · rename_i hc
      have h1 := Tr.count_le v (most - n) (by omega)
      have h2 := Ks.count_le r (n + v.count (most - n)) most (by omega) (by omega)
      omega
    · omega
end

mutual
theorem Tr.nb_le : ∀ (v : Tr), v.wf → v.nb + reachBytes ≤ 4 * reachBytes * v.nodes
  | .mk _ t m _ _ _ b _ ks, h => by
    simp only [Tr.wf] at h
    obtain ⟨_, _, h1, h2, _, _, _, _, _, _, h3, _, h4⟩ := h
    have := Ks.nb_le ks h4
    simp only [Tr.nb, Tr.nodes, Nat.mul_add]
    simp only [reachBytes] at *; omega
theorem Ks.nb_le : ∀ (ks : Ks), ks.wf → ks.nb ≤ 4 * reachBytes * ks.nodes
  | .nil, _ => by simp [Ks.nb]
  | .cons nm v r, h => by
    have h1 := Tr.nb_le v h.2.1
    have h2 := Ks.nb_le r h.2.2
    have h3 := h.1
    simp only [Ks.nb, Ks.nodes, Nat.mul_add]
    omega
end

mutual
theorem Tr.count_all : ∀ (v : Tr) (most : Int), 0 ≤ most → v.count most ≤ most → v.count most = v.nodes
  | .mk _ _ _ _ _ _ _ _ ks, most, h, hc => by
    simp only [Tr.count] at hc ⊢
    have := Ks.count_all ks 1 most (by omega) hc
    simp only [Tr.nodes]; omega
theorem Ks.count_all : ∀ (ks : Ks) (n most : Int), 1 ≤ n → ks.count n most ≤ most → ks.count n most = n + ks.nodes
  | .nil, n, most, h, hc => by simp [Ks.count, Ks.nodes]
  | .cons nm v r, n, most, h, hc => by
    simp only [Ks.count] at hc ⊢
    split at hc
    · rename_i h0
      have h1 := Tr.count_le v (most - n) (by omega)
      have h2 := Ks.count_le r (n + v.count (most - n)) most (by omega) (by omega)
      rw [if_pos h0]
      have h3 := Tr.count_all v (most - n) (by omega) (by omega)
      have h4 := Ks.count_all r (n + v.count (most - n)) most (by omega) hc
      rw [h4, h3]; simp only [Ks.nodes]; omega
    · omega
end

/-! ### Right values -/
def plainL : List UInt8 → Bool
  | [] => true
  | c :: r => if c = 0 then false else plainL r

def digL (n : Nat) : List UInt8 :=
  if n < 10 then [UInt8.ofNat (48 + n)] else digL (n / 10) ++ [UInt8.ofNat (48 + n % 10)]

def knownK (k : Int) : Bool := (decide (1 ≤ k) && decide (k ≤ 19)) || k == 255 || k == 127

/-! A value's fields, those that its kind names emptied. -/
def bareT (k : Int) (t : List UInt8) : List UInt8 := if k = 2 ∨ k = 13 ∨ k = 14 ∨ k = 11 ∨ k = 12 ∨ k = 15 then [] else t
def bareM (k : Int) (m : List UInt8) : List UInt8 := if k = 11 then [] else m
def bareN (k n : Int) : Int := if k = 5 ∨ k = 8 ∨ k = 9 ∨ k = 16 ∨ k = 18 then 0 else n
def bareL (k n : Int) : Int := if k = 1 ∨ k = 17 ∨ k = 19 then 0 else n
def bareH (k n : Int) : Int := if k = 19 then 0 else n
def bareB (k : Int) (b : Option (List UInt8)) : Option (List UInt8) := if k = 5 ∨ k = 7 ∨ k = 12 then none else b
def bareK (k : Int) (ks : Ks) : Ks := if k = 3 ∨ k = 4 ∨ k = 15 then .nil else ks
def bareKn (k : Int) (kn : Bool) : Bool := if k = 3 ∨ k = 4 ∨ k = 15 then true else kn
def bareOk (k : Int) (t m : List UInt8) (n bi hi : Int) (b : Option (List UInt8)) (ks : Ks) : Bool :=
  (bareT k t).isEmpty && ((bareM k m).isEmpty && (decide (bareN k n = 0) && (decide (bareL k bi = 0) && (decide (bareH k hi = 0) && (decide ((bl (bareB k b)).length = 0) && decide ((bareK k ks).len = 0))))))

mutual
def Tr.right : Tr → Nat → Bool
  | .mk k t m n bi hi b _ ks, d => knownK k && (d != 0 && (bareOk k t m n bi hi b ks &&
    (if k = 5 then decide (0 ≤ n) && decide (n ≤ 255)
     else if k = 7 ∨ k = 12 then decide ((bl b).length = 12)
     else if k = 8 then decide (n = 0) || decide (n = 1)
     else if k = 16 then decide (-2147483648 ≤ n) && decide (n < 2147483648)
     else if k = 11 then plainL t && plainL m
     else Ks.right ks (k == 4) 0 (d - 1))))
def Ks.right : Ks → Bool → Nat → Nat → Bool
  | .nil, _, _, _ => true
  | .cons nm v r, arr, i, d => plainL nm && (!(arr && nm != digL i) && (Tr.right v d && Ks.right r arr (i + 1) d))
end

/-! ### Bytes -/
def byteOf (n : Int) : UInt8 := UInt8.ofNat (n % 256).toNat
def le32 (n : Int) : List UInt8 := [byteOf n, byteOf (n / 256), byteOf (n / 65536), byteOf (n / 16777216)]
def le64 (n : Int) : List UInt8 := [byteOf n, byteOf (n / 2^8), byteOf (n / 2^16), byteOf (n / 2^24), byteOf (n / 2^32), byteOf (n / 2^40), byteOf (n / 2^48), byteOf (n / 2^56)]
def txtL (s : List UInt8) : List UInt8 := le32 (s.length + 1) ++ (s ++ [0])
def hdL (k : Int) (nm : List UInt8) : List UInt8 := byteOf k :: (nm ++ [0])

mutual
def Tr.val : Tr → List UInt8
  | .mk k t m n bi hi b _ ks =>
    if k = 1 ∨ k = 17 then le64 bi
    else if k = 2 ∨ k = 13 ∨ k = 14 then txtL t
    else if k = 3 ∨ k = 4 then le32 ((Ks.body ks).length + 5) ++ (Ks.body ks ++ [0])
    else if k = 5 then (if n = 2 then le32 ((bl b).length + 4) ++ (2 :: (le32 (bl b).length ++ bl b)) else le32 (bl b).length ++ (byteOf n :: bl b))
    else if k = 7 then bl b
    else if k = 8 then [byteOf n]
    else if k = 9 ∨ k = 18 then le64 n
    else if k = 16 then le32 n
    else if k = 11 then t ++ (0 :: (m ++ [0]))
    else if k = 12 then txtL t ++ bl b
    else if k = 15 then le32 (4 + (txtL t).length + ((Ks.body ks).length + 5)) ++ (txtL t ++ (le32 ((Ks.body ks).length + 5) ++ (Ks.body ks ++ [0])))
    else if k = 19 then le64 bi ++ le64 hi
    else []
def Ks.body : Ks → List UInt8
  | .nil => []
  | .cons nm v r => byteOf (Tr.kind v) :: (nm ++ (0 :: Tr.val v)) ++ Ks.body r
def Tr.kind : Tr → Int
  | .mk k _ _ _ _ _ _ _ _ => k
end
def Ks.doc (ks : Ks) : List UInt8 := le32 (ks.body.length + 5) ++ (ks.body ++ [0])
def elemL (nm : List UInt8) (v : Tr) : List UInt8 := hdL v.kind nm ++ v.val

theorem le32_length (n : Int) : (le32 n).length = 4 := rfl
theorem le64_length (n : Int) : (le64 n).length = 8 := rfl
theorem txtL_length (s : List UInt8) : (txtL s).length = s.length + 5 := by simp [txtL, le32_length]; omega
theorem hdL_length (k : Int) (s : List UInt8) : (hdL k s).length = s.length + 2 := by simp [hdL]

mutual
theorem Tr.val_le : ∀ (v : Tr), v.val.length + 2 ≤ v.nb + 18 * v.nodes
  | .mk k t m n bi hi b kn ks => by
    have h := Ks.body_le ks
    simp only [Tr.nb, Tr.nodes]
    unfold Tr.val
    by_cases c0 : k = 1 ∨ k = 17
    · rw [if_pos c0]; (try simp only [List.length_append, List.length_cons, List.length_nil, le32_length, le64_length, txtL_length]); omega
    rw [if_neg c0]
    by_cases c1 : k = 2 ∨ k = 13 ∨ k = 14
    · rw [if_pos c1]; (try simp only [List.length_append, List.length_cons, List.length_nil, le32_length, le64_length, txtL_length]); omega
    rw [if_neg c1]
    by_cases c2 : k = 3 ∨ k = 4
    · rw [if_pos c2]; (try simp only [List.length_append, List.length_cons, List.length_nil, le32_length, le64_length, txtL_length]); omega
    rw [if_neg c2]
    by_cases c3 : k = 5
    · rw [if_pos c3]; by_cases cn : n = 2
      · rw [if_pos cn]; (try simp only [List.length_append, List.length_cons, List.length_nil, le32_length, le64_length, txtL_length]); omega
      · rw [if_neg cn]; (try simp only [List.length_append, List.length_cons, List.length_nil, le32_length, le64_length, txtL_length]); omega
    rw [if_neg c3]
    by_cases c4 : k = 7
    · rw [if_pos c4]; (try simp only [List.length_append, List.length_cons, List.length_nil, le32_length, le64_length, txtL_length]); omega
    rw [if_neg c4]
    by_cases c5 : k = 8
    · rw [if_pos c5]; (try simp only [List.length_append, List.length_cons, List.length_nil, le32_length, le64_length, txtL_length]); omega
    rw [if_neg c5]
    by_cases c6 : k = 9 ∨ k = 18
    · rw [if_pos c6]; (try simp only [List.length_append, List.length_cons, List.length_nil, le32_length, le64_length, txtL_length]); omega
    rw [if_neg c6]
    by_cases c7 : k = 16
    · rw [if_pos c7]; (try simp only [List.length_append, List.length_cons, List.length_nil, le32_length, le64_length, txtL_length]); omega
    rw [if_neg c7]
    by_cases c8 : k = 11
    · rw [if_pos c8]; (try simp only [List.length_append, List.length_cons, List.length_nil, le32_length, le64_length, txtL_length]); omega
    rw [if_neg c8]
    by_cases c9 : k = 12
    · rw [if_pos c9]; (try simp only [List.length_append, List.length_cons, List.length_nil, le32_length, le64_length, txtL_length]); omega
    rw [if_neg c9]
    by_cases c10 : k = 15
    · rw [if_pos c10]; (try simp only [List.length_append, List.length_cons, List.length_nil, le32_length, le64_length, txtL_length]); omega
    rw [if_neg c10]
    by_cases c11 : k = 19
    · rw [if_pos c11]; (try simp only [List.length_append, List.length_cons, List.length_nil, le32_length, le64_length, txtL_length]); omega
    rw [if_neg c11]
    (try simp only [List.length_append, List.length_cons, List.length_nil, le32_length, le64_length, txtL_length]); omega
theorem Ks.body_le : ∀ (ks : Ks), ks.body.length ≤ ks.nb + 18 * ks.nodes
  | .nil => by simp [Ks.body]
  | .cons nm v r => by
    have h := Tr.val_le v
    have h' := Ks.body_le r
    simp only [Ks.body, Ks.nb, Ks.nodes, List.length_append, List.length_cons]
    omega
end
theorem Ks.doc_length (ks : Ks) : ks.doc.length = ks.body.length + 5 := by simp [Ks.doc, le32_length]; omega
end Go.Proofs.YtdnfnobgeddbfaaGreatDoor.Abs

/- Rows of bytes that are appended to. -/
namespace Go.Proofs.YtdnfnobgeddbfaaGreatDoor.Abs
set_option linter.all false
set_option linter.unusedVariables false

inductive BS where
  | nil
  | own (f : Bool) (l : List UInt8)

def BS.av (e : Nat) : BS → AV
  | .nil => .slice .nil 0 1 []
  | .own f l => .slice (.own f) e 1 (byteCells l)
def BS.lv (e : Nat) : BS → AV
  | .nil => .slice .nil 0 1 []
  | .own f l => .slice .hdr e 1 (byteCells l)
def BS.opt : BS → Option (List UInt8)
  | .nil => none
  | .own _ l => some l
def BS.sh : BS → BS
  | .nil => .nil
  | .own _ l => .own false l
def BS.l : BS → List UInt8
  | .nil => []
  | .own _ l => l
def BS.app : BS → List UInt8 → BS
  | .nil, [] => .nil
  | .nil, l => .own true l
  | .own f l, m => .own f (l ++ m)
def BS.mk (l : List UInt8) : BS := BS.nil.app l

theorem BS.l_app (b : BS) (m : List UInt8) : (b.app m).l = b.l ++ m := by cases b <;> cases m <;> simp [BS.app, BS.l]
@[simp] theorem BS.bl_opt (b : BS) : bl b.opt = b.l := by cases b <;> rfl
@[simp] theorem BS.l_mk (m : List UInt8) : (BS.mk m).l = m := by cases m <;> rfl
theorem BS.app_app (b : BS) (m k : List UInt8) : (b.app m).app k = b.app (m ++ k) := by
  cases b <;> cases m <;> cases k <;> simp [BS.app]
theorem BS.mk_app (m k : List UInt8) : (BS.mk m).app k = BS.mk (m ++ k) := BS.app_app _ _ _
theorem BS.nil_app (m : List UInt8) : BS.nil.app m = BS.mk m := rfl
@[simp] theorem BS.sh_l (b : BS) : b.sh.l = b.l := by cases b <;> rfl
@[simp] theorem BS.opt_sh (b : BS) : b.sh.opt = b.opt := by cases b <;> rfl

section
variable (e : Nat) (b : BS)
@[simp] theorem BS.av_gv : gvV (b.av e) = bAV e b.opt := by cases b <;> rfl
@[simp] theorem BS.av_hd : hdV (b.av e) = b.lv e := by cases b <;> rfl
@[simp] theorem BS.av_lf : lfV (b.av e) = b.lv e := by cases b <;> rfl
@[simp] theorem BS.av_left : (b.av e).cls .left = b.lv e := by cases b <;> rfl
@[simp] theorem BS.av_cpV_take : cpV .take (b.av e) = b.av e := by cases b <;> rfl
@[simp] theorem BS.av_cpS_take : cpS .take (b.av e) = b.lv e := by cases b <;> rfl
@[simp] theorem BS.av_cpV_look : cpV .look (b.av e) = bAV e b.opt := by cases b <;> rfl
@[simp] theorem BS.av_cpS_look : cpS .look (b.av e) = b.sh.av e := by cases b <;> rfl
@[simp] theorem BS.av_cpV_head : cpV .head (b.av e) = b.lv e := by cases b <;> rfl
@[simp] theorem BS.av_cpS_head : cpS .head (b.av e) = b.av e := by cases b <;> rfl
@[simp] theorem BS.av_plain : (b.av e).plain = true := by cases b <;> rfl
@[simp] theorem BS.av_cells : (b.av e).cells = [b.av e] := by cases b <;> rfl
@[simp] theorem BS.av_several : (b.av e).several = false := by cases b <;> rfl
@[simp] theorem BS.av_kill (t : Nat) : (b.av e).kill t = b.av e := by cases b <;> rfl
@[simp] theorem BS.av_len : aLen false (b.av e) = some (.int .i64 b.l.length) := by cases b <;> simp [BS.av, BS.l, byteCells]
@[simp] theorem BS.av_lenV : lenV (b.av e) = some (b.l.length : Int) := by cases b <;> simp [BS.av, BS.l, byteCells]
@[simp] theorem BS.lv_gv : gvV (b.lv e) = b.lv e := by cases b <;> rfl
@[simp] theorem BS.lv_hd : hdV (b.lv e) = b.lv e := by cases b <;> rfl
@[simp] theorem BS.lv_lf : lfV (b.lv e) = b.lv e := by cases b <;> rfl
@[simp] theorem BS.lv_left : (b.lv e).cls .left = b.lv e := by cases b <;> rfl
@[simp] theorem BS.lv_cpV (m : Mode) : cpV m (b.lv e) = b.lv e := by cases b <;> cases m <;> rfl
@[simp] theorem BS.lv_cpS (m : Mode) : cpS m (b.lv e) = b.lv e := by cases b <;> cases m <;> rfl
@[simp] theorem BS.lv_plain : (b.lv e).plain = true := by cases b <;> rfl
@[simp] theorem BS.lv_several : (b.lv e).several = false := by cases b <;> rfl
@[simp] theorem BS.lv_kill (t : Nat) : (b.lv e).kill t = b.lv e := by cases b <;> rfl
@[simp] theorem BS.lv_len : aLen false (b.lv e) = some (.int .i64 b.l.length) := by cases b <;> simp [BS.lv, BS.l, byteCells]
@[simp] theorem BS.lv_lenV : lenV (b.lv e) = some (b.l.length : Int) := by cases b <;> simp [BS.lv, BS.l, byteCells]
theorem BS.av_nil : BS.nil.av e = AV.slice .nil 0 1 [] := rfl
theorem BS.nil_av : AV.slice .nil 0 1 [] = BS.nil.av e := rfl
end

inductive Bytes (e : Nat) : AV → List UInt8 → Prop
  | b (o : Option (List UInt8)) : Bytes e (bAV e o) (bl o)
  | s (b : BS) : Bytes e (b.av e) b.l
  | lit (f : Bool) (xs : List AV) (l : List UInt8) (h : xs = byteCells l) : Bytes e (.slice (.own f) e 1 xs) l

theorem apV_bytes {hp : H} {e : Nat} (b : BS) {x : AV} {ys : List UInt8} (hx : Bytes e x ys) (h : b.l.length + ys.length ≤ tooLong) : apV hp e 1 1 false (b.av e) x = some ((b.app ys).av e) := by
  have hm : moreV hp 1 false x = some (byteCells ys) := by
    cases hx with
    | b o => cases o <;> simp [bAV, moreV, bl, byteCells]
    | s b => cases b <;> simp [BS.av, moreV, BS.l, byteCells]
    | lit f xs l h => subst h; simp [moreV]
  cases b with
  | nil =>
    simp only [BS.l, List.length_nil, Nat.zero_add] at h
    cases ys with
    | nil => simp [apV, BS.av, hm, BS.app, byteCells, tooLong]
    | cons c ys => simp [apV, BS.av, hm, BS.app, byteCells] at h ⊢; simp [tooLong] at h ⊢; omega
  | own f l =>
    simp only [BS.l] at h
    simp [apV, BS.av, hm, BS.app, byteCells_append]
    omega
theorem apV_str {hp : H} {e : Nat} (b : BS) (s : List UInt8) (h : b.l.length + s.length ≤ tooLong) : apV hp e 1 1 true (b.av e) (.str s) = some ((b.app s).av e) := by
  cases b with
  | nil =>
    simp only [BS.l, List.length_nil, Nat.zero_add] at h
    cases s with
    | nil => simp [apV, BS.av, moreV, BS.app, byteCells, tooLong]
    | cons c s => simp [apV, BS.av, moreV, BS.app, byteCells] at h ⊢; simp [tooLong] at h ⊢; omega
  | own f l =>
    simp only [BS.l] at h
    simp [apV, BS.av, moreV, BS.app, byteCells_append]
    omega

section
variable {hp : H} {e : Nat} {b : BS}
theorem apV_b {o : Option (List UInt8)} (h : b.l.length + (bl o).length ≤ tooLong) : apV hp e 1 1 false (b.av e) (bAV e o) = some ((b.app (bl o)).av e) := apV_bytes b (.b o) h
theorem apV_s {c : BS} (h : b.l.length + c.l.length ≤ tooLong) : apV hp e 1 1 false (b.av e) (c.av e) = some ((b.app c.l).av e) := apV_bytes b (.s c) h
theorem apV_l1 {f : Bool} {c : UInt8} (h : b.l.length + 1 ≤ tooLong) : apV hp e 1 1 false (b.av e) (.slice (.own f) e 1 [.int .u8 (c.toNat : Int)]) = some ((b.app [c]).av e) := apV_bytes b (.lit f _ _ rfl) h
theorem apV_l0 {f : Bool} (h : b.l.length + 1 ≤ tooLong) : apV hp e 1 1 false (b.av e) (.slice (.own f) e 1 [.int .u8 0]) = some ((b.app [0]).av e) := apV_bytes b (.lit f _ _ rfl) h
theorem apV_l2 {f : Bool} (h : b.l.length + 1 ≤ tooLong) : apV hp e 1 1 false (b.av e) (.slice (.own f) e 1 [.int .u8 2]) = some ((b.app [2]).av e) := apV_bytes b (.lit f _ _ rfl) h
theorem apV_l4 {f : Bool} {c1 c2 c3 c4 : UInt8} (h : b.l.length + 4 ≤ tooLong) : apV hp e 1 1 false (b.av e) (.slice (.own f) e 1 [.int .u8 (c1.toNat : Int), .int .u8 (c2.toNat : Int), .int .u8 (c3.toNat : Int), .int .u8 (c4.toNat : Int)]) = some ((b.app [c1, c2, c3, c4]).av e) := apV_bytes b (.lit f _ _ rfl) h
theorem apV_lit {f g : Bool} {xs : List AV} {l m : List UInt8} (hx : xs = byteCells m) (h : l.length + m.length ≤ tooLong) : apV hp e 1 1 false (.slice (.own g) e 1 (byteCells l)) (.slice (.own f) e 1 xs) = some (.slice (.own g) e 1 (byteCells (l ++ m))) := apV_bytes (.own g l) (.lit f xs m hx) h
end

theorem u8_wrap (n : Int) : IntKind.u8.wrap n = ((byteOf n).toNat : Int) := by
  simp [IntKind.wrap, IntKind.signed, IntKind.bits, byteOf]; omega
@[simp] theorem toInt_u8 (b : UInt8) : UInt8.ofNat ((b.toNat : Int).toNat) = b := by simp
end Go.Proofs.YtdnfnobgeddbfaaGreatDoor.Abs

/- Numbers read from bytes, the lowest byte first. -/
namespace Go.Proofs.YtdnfnobgeddbfaaGreatDoor.Abs
set_option linter.all false
set_option linter.unusedVariables false

def rd32 (a b c d : UInt8) : Int := IntKind.i32.wrap (a.toNat + 256 * b.toNat + 65536 * c.toNat + 16777216 * d.toNat)

theorem i32_wrap (n : Int) : IntKind.i32.wrap n = if n % 4294967296 ≥ 2147483648 then n % 4294967296 - 4294967296 else n % 4294967296 := by
  simp [IntKind.wrap, IntKind.signed, IntKind.bits]
theorem ofInt_wrap32 (n : Int) : BitVec.ofInt 32 (IntKind.i32.wrap n) = BitVec.ofInt 32 n := by
  apply BitVec.eq_of_toInt_eq
  rw [i32_wrap]; simp only [BitVec.toInt_ofInt]
  split <;> simp only [Int.bmod] <;> omega
theorem or_i32 (x : Nat) (c : Nat) (k : Nat) (hx : x < 2 ^ k) (hc : c < 256) (hk : k ≤ 24) :
    orI .i32 (IntKind.i32.wrap (x : Int)) (IntKind.i32.wrap ((c : Int) * 2 ^ k)) = IntKind.i32.wrap ((x : Int) + c * 2 ^ k) := by
  show IntKind.i32.wrap ((BitVec.ofInt 32 (IntKind.i32.wrap (x : Int)) ||| BitVec.ofInt 32 (IntKind.i32.wrap ((c : Int) * 2 ^ k))).toNat : Int) = _
  rw [ofInt_wrap32, ofInt_wrap32]
  have e1 : ((c : Int) * 2 ^ k) = ((c <<< k : Nat) : Int) := by rw [Nat.shiftLeft_eq]; simp
  rw [e1]
  simp only [BitVec.ofInt_natCast]
  have e2 : x ||| (c <<< k) = c <<< k + x := by rw [Nat.or_comm, Nat.shiftLeft_add_eq_or_of_lt hx]
  have hk2 : 2 ^ k ≤ 2 ^ 24 := Nat.pow_le_pow_right (by omega) hk
  have h1 : x < 2 ^ 32 := by omega
  have h2 : c <<< k < 2 ^ 32 := by
    rw [Nat.shiftLeft_eq]
    calc c * 2 ^ k ≤ c * 2 ^ 24 := Nat.mul_le_mul_left _ hk2
      _ < 2 ^ 32 := by omega
  rw [BitVec.toNat_or, BitVec.toNat_ofNat, BitVec.toNat_ofNat, Nat.mod_eq_of_lt h1, Nat.mod_eq_of_lt h2, e2]
  congr 1; omega

theorem sl_b {hp : H} {e : Nat} {l : List UInt8} {i j : Int} (h0 : 0 ≤ i) (h1 : i ≤ j) (h2 : j ≤ l.length) : slSl hp 1 (bAV e (some l)) (some i) (some j) = some (bAV e (some ((l.drop i.toNat).take (j.toNat - i.toNat)))) := by
  simp [slSl, bAV, byteCells, h0, h1, h2, List.map_take, List.map_drop]

/-! ### The law's plain part -/
theorem byteOf_toNat (n : Int) : ((byteOf n).toNat : Int) = n % 256 := by
  unfold byteOf; rw [UInt8.toNat_ofNat']; omega
theorem rd32_le32 {n : Int} (h0 : -2147483648 ≤ n) (h1 : n < 2147483648) : rd32 (byteOf n) (byteOf (n / 256)) (byteOf (n / 65536)) (byteOf (n / 16777216)) = n := by
  unfold rd32
  rw [byteOf_toNat, byteOf_toNat, byteOf_toNat, byteOf_toNat, i32_wrap]
  omega


/-! ### Numbers of 64 bits -/
def rd64 (a b c d e f g h : UInt8) : Int := IntKind.i64.wrap (a.toNat + 2 ^ 8 * b.toNat + 2 ^ 16 * c.toNat + 2 ^ 24 * d.toNat + 2 ^ 32 * e.toNat + 2 ^ 40 * f.toNat + 2 ^ 48 * g.toNat + 2 ^ 56 * h.toNat)
theorem i64_wrap (n : Int) : IntKind.i64.wrap n = if n % 18446744073709551616 ≥ 9223372036854775808 then n % 18446744073709551616 - 18446744073709551616 else n % 18446744073709551616 := by
  simp [IntKind.wrap, IntKind.signed, IntKind.bits]
theorem ofInt_wrap64 (n : Int) : BitVec.ofInt 64 (IntKind.i64.wrap n) = BitVec.ofInt 64 n := by
  apply BitVec.eq_of_toInt_eq
  rw [i64_wrap]; simp only [BitVec.toInt_ofInt]
  split <;> simp only [Int.bmod] <;> omega
theorem or_i64 (x : Nat) (c : Nat) (k : Nat) (hx : x < 2 ^ k) (hc : c < 256) (hk : k ≤ 56) :
    orI .i64 (IntKind.i64.wrap (x : Int)) (IntKind.i64.wrap ((c : Int) * 2 ^ k)) = IntKind.i64.wrap ((x : Int) + c * 2 ^ k) := by
  show IntKind.i64.wrap ((BitVec.ofInt 64 (IntKind.i64.wrap (x : Int)) ||| BitVec.ofInt 64 (IntKind.i64.wrap ((c : Int) * 2 ^ k))).toNat : Int) = _
  rw [ofInt_wrap64, ofInt_wrap64]
  have e1 : ((c : Int) * 2 ^ k) = ((c <<< k : Nat) : Int) := by rw [Nat.shiftLeft_eq]; simp
  rw [e1]
  simp only [BitVec.ofInt_natCast]
  have e2 : x ||| (c <<< k) = c <<< k + x := by rw [Nat.or_comm, Nat.shiftLeft_add_eq_or_of_lt hx]
  have hk2 : 2 ^ k ≤ 2 ^ 56 := Nat.pow_le_pow_right (by omega) hk
  have h1 : x < 2 ^ 64 := by omega
  have h2 : c <<< k < 2 ^ 64 := by
    rw [Nat.shiftLeft_eq]
    calc c * 2 ^ k ≤ c * 2 ^ 56 := Nat.mul_le_mul_left _ hk2
      _ < 2 ^ 64 := by omega
  rw [BitVec.toNat_or, BitVec.toNat_ofNat, BitVec.toNat_ofNat, Nat.mod_eq_of_lt h1, Nat.mod_eq_of_lt h2, e2]
  congr 1; omega
theorem rd64_le64 {n : Int} (h0 : -9223372036854775808 ≤ n) (h1 : n ≤ 9223372036854775807) :
    rd64 (byteOf n) (byteOf (n / 2 ^ 8)) (byteOf (n / 2 ^ 16)) (byteOf (n / 2 ^ 24)) (byteOf (n / 2 ^ 32)) (byteOf (n / 2 ^ 40)) (byteOf (n / 2 ^ 48)) (byteOf (n / 2 ^ 56)) = n := by
  unfold rd64
  simp only [byteOf_toNat]
  rw [i64_wrap]
  omega

/-! ### Few, right and short -/
def Tr.sz (v : Tr) : Nat := v.nb + 18 * v.nodes
def Ks.sz (ks : Ks) : Nat := ks.nb + 18 * ks.nodes
def Tr.fine (v : Tr) (c b : Nat) : Bool := decide (v.count c ≤ c) && (v.right 200 && decide (IntKind.i64.wrap v.nb ≤ b))
def Ks.tr (ks : Ks) (kn : Bool) : Tr := .mk 3 [] [] 0 0 0 none kn ks
theorem fine_sz {v : Tr} {c b : Nat} (hc : c ≤ 1000) (hW : v.wf) (h : v.fine c b = true) : v.sz ≤ b + 18 * c ∧ v.right 200 = true ∧ v.nodes ≤ c ∧ v.nb ≤ b := by
  simp only [Tr.fine, Bool.and_eq_true, decide_eq_true_eq] at h
  obtain ⟨h1, h0, h3⟩ := h
  have h2 := Tr.count_all v c (by omega) h1
  rw [h2] at h1
  have hle := Tr.nb_le v hW
  simp only [reachBytes] at hle
  rw [wrap_i64 (by omega) (by
    have : v.nodes ≤ 1000 := by omega
    have : 562949953404928 * v.nodes ≤ 562949953404928 * 1000 := Nat.mul_le_mul_left _ this
    omega)] at h3
  unfold Tr.sz
  refine ⟨by omega, h0, by omega, by omega⟩
theorem fine_szK {ks : Ks} {kn : Bool} (hl : ks.len ≤ reachBytes) (hW : ks.wf) (h : (ks.tr kn).fine 300 5000 = true) : ks.sz ≤ 11000 := by
  have := (fine_sz (by omega) (by simp [Ks.tr, Tr.wf, bl, hl, hW, IntKind.min, IntKind.max, IntKind.signed, IntKind.bits]) h).1
  simp only [Tr.sz, Ks.tr, Tr.nb, Tr.nodes] at this
  unfold Ks.sz; omega
end Go.Proofs.YtdnfnobgeddbfaaGreatDoor.Abs

/- The heap, for the simplifier: what is read of it, what is written; calls that are not handed it. -/
namespace Go.Proofs.YtdnfnobgeddbfaaGreatDoor.Abs
set_option linter.all false
set_option linter.unusedVariables false

/-! ### What names no memory made later -/
@[simp] theorem old_bool (b : Nat) (x : Bool) : (AV.bool x).old b = true := by simp [AV.old]
@[simp] theorem old_int (b : Nat) (k : IntKind) (n : Int) : (AV.int k n).old b = true := by simp [AV.old]
@[simp] theorem old_str (b : Nat) (s : List UInt8) : (AV.str s).old b = true := by simp [AV.old]
@[simp] theorem old_flt (b : Nat) (k : FloatKind) (n : Nat) : (AV.flt k n).old b = true := by simp [AV.old]
@[simp] theorem old_nilptr (b : Nat) : (AV.nilptr).old b = true := by simp [AV.old]
@[simp] theorem old_nilI (b : Nat) : (AV.nilI).old b = true := by simp [AV.old]
@[simp] theorem old_fn (b f : Nat) : (AV.fn f).old b = true := by simp [AV.old]
@[simp] theorem old_gl (b g : Nat) : (AV.gl g).old b = true := by simp [AV.old]
@[simp] theorem old_nilfn (b : Nat) : (AV.nilfn).old b = true := by simp [AV.old]
@[simp] theorem old_iface (b : Nat) (t : TypeId) (v : AV) : (AV.iface t v).old b = v.old b := by simp [AV.old]
@[simp] theorem old_slice (b : Nat) (c : Cls) (e sz : Nat) (xs : List AV) : (AV.slice c e sz xs).old b = oldL b xs := by simp [AV.old]
@[simp] theorem old_agg (b : Nat) (xs : List AV) : (AV.agg xs).old b = oldL b xs := by simp [AV.old]
@[simp] theorem old_tup (b : Nat) (xs : List AV) : (AV.tup xs).old b = oldL b xs := by simp [AV.old]
@[simp] theorem old_eptr (b : Nat) (xs : List AV) : (AV.eptr xs).old b = oldL b xs := by simp [AV.old]
@[simp] theorem old_ptr (b i off : Nat) : (AV.ptr (.obj i) off).old b = decide (i < b) := by simp [AV.old]
@[simp] theorem old_hsl (b i k e sz n : Nat) : (AV.hsl i k e sz n).old b = decide (i < b) := by simp [AV.old]
@[simp] theorem oldL_nil (b : Nat) : oldL b [] = true := by simp [oldL]
@[simp] theorem oldL_cons (b : Nat) (x : AV) (xs : List AV) : oldL b (x :: xs) = (x.old b && oldL b xs) := by simp [oldL]
@[simp] theorem oldL_append (b : Nat) : ∀ (xs ys : List AV), oldL b (xs ++ ys) = (oldL b xs && oldL b ys)
  | [], ys => by simp
  | x :: xs, ys => by simp [oldL_append b xs ys, Bool.and_assoc]
@[simp] theorem oldL_bytes (b : Nat) : ∀ l : List UInt8, oldL b (byteCells l) = true
  | [] => by simp [byteCells]
  | c :: l => by simp [byteCells_cons, oldL_bytes b l]
@[simp] theorem old_bAV (b e : Nat) (o : Option (List UInt8)) : (bAV e o).old b = true := by cases o <;> simp [bAV]
@[simp] theorem old_BS (b e : Nat) (x : BS) : (x.av e).old b = true := by cases x <;> simp [BS.av]
@[simp] theorem old_BSl (b e : Nat) (x : BS) : (x.lv e).old b = true := by cases x <;> simp [BS.lv]
section
variable (b eB eE : Nat)
mutual
theorem old_Tr : ∀ v : Tr, oldL b (v.cells eB eE) = true
  | .mk k t m n bi hi bb kn ks => by simp [Tr.cells, old_Ks ks kn]
theorem old_Ks : ∀ (ks : Ks) (kn : Bool), (Ks.av eB eE ks kn).old b = true
  | .nil, kn => by cases kn <;> simp [Ks.av]
  | .cons nm v r, kn => by simp [Ks.av, old_Tr v, old_Kf r]
theorem old_Kf : ∀ ks : Ks, oldL b (ks.flat eB eE) = true
  | .nil => by simp [Ks.flat]
  | .cons nm v r => by simp [Ks.flat, old_Tr v, old_Kf r]
end
end
attribute [simp] old_Tr old_Ks old_Kf

/-! ### The heap -/
@[simp] theorem H.n_mask (h : H) : h.mask.n = h.n := by simp [H.mask, H.n]
@[simp] theorem H.mask_mask (h : H) : h.mask.mask = h.mask := by simp [H.mask, H.n]
@[simp] theorem H.Γ_mask (h : H) : h.mask.Γ = h.Γ := rfl
attribute [simp] H.n_push H.n_set H.n_del H.Γ_push H.Γ_set H.Γ_del
@[simp] theorem noHeap_mask (h : H) (v : AV) : noHeap h.n (v, h.mask) = some v := by simp [noHeap, H.mask]
@[simp] theorem noHeap_old {b : Nat} {v : AV} {h : H} (hv : v.old b = true) : noHeap b (v, h) = some v := by simp [noHeap, hv]
@[simp] theorem H.get_push_n (h : H) (o : Obj) : (h.push o).get h.n = some o := by rw [H.get_push, if_pos rfl]
theorem H.get_push_ne (h : H) (o : Obj) {i : Nat} (hi : i ≠ h.n) : (h.push o).get i = h.get i := by rw [H.get_push, if_neg hi]
theorem H.lt_of_get {h : H} {i : Nat} {o : Obj} (hi : h.get i = some o) : i < h.n := (H.get_lt hi).2
theorem H.get_push_old {h : H} {i : Nat} {o' : Obj} (hi : h.get i = some o') (o : Obj) : (h.push o).get i = some o' := by
  rw [H.get_push_ne h o (Nat.ne_of_lt (H.lt_of_get hi))]; exact hi
theorem H.get_set_same {h : H} {i : Nat} {x : Obj} (hx : h.get i = some x) (o : Obj) : (h.set i o).get i = some o := by rw [H.get_set hx, if_pos rfl]
theorem H.get_set_ne (h : H) (o : Obj) {i j : Nat} (hj : j ≠ i) : (h.set i o).get j = h.get j := by
  unfold H.set
  split
  · rfl
  · unfold H.get
    simp only
    split
    · rfl
    · rw [List.getElem?_set_ne (by omega)]
@[simp] theorem H.set_set (h : H) (i : Nat) (o o' : Obj) : (h.set i o).set i o' = h.set i o' := by
  unfold H.set
  split
  · rfl
  · simp
theorem H.set_get {h : H} {i : Nat} {o : Obj} (hx : h.get i = some o) : h.set i o = h := by
  obtain ⟨h1, h2⟩ := H.get_lt hx
  unfold H.set
  rw [if_neg (by omega)]
  unfold H.get at hx
  rw [if_neg (by omega)] at hx
  have : h.l.set (i - h.base) (some o) = h.l := by
    apply List.ext_getElem?
    intro j
    by_cases hj : i - h.base = j
    · subst hj
      rw [List.getElem?_set_self (by unfold H.n at h2; omega)]
      cases hh : h.l[i - h.base]? with
      | none => rw [hh] at hx; cases hx
      | some y => rw [hh] at hx; simp [Option.join] at hx; rw [hx]
    · rw [List.getElem?_set_ne hj]
  rw [this]
@[simp] theorem H.push_set_n (h : H) (o o' : Obj) : (h.push o).set h.n o' = h.push o' := by
  unfold H.push H.set H.n
  simp; omega
theorem H.push_set_old {h : H} {i : Nat} {x : Obj} (hi : h.get i = some x) (o o' : Obj) : (h.push o).set i o' = (h.set i o').push o := by
  obtain ⟨h1, h2⟩ := H.get_lt hi
  unfold H.n at h2
  unfold H.push H.set
  simp only [if_neg (show ¬ i < h.base by omega)]
  rw [List.set_append_left _ _ (by omega)]

structure H.Grown (h h' : H) : Prop where
  n : h.n ≤ h'.n
  get : ∀ i, i < h.n → h'.get i = h.get i
  Γ : h'.Γ = h.Γ
theorem H.Grown.refl (h : H) : H.Grown h h := ⟨Nat.le_refl _, fun _ _ => rfl, rfl⟩
theorem H.Grown.trans {a b c : H} (h : H.Grown a b) (k : H.Grown b c) : H.Grown a c := ⟨Nat.le_trans h.n k.n, fun i hi => (k.get i (Nat.lt_of_lt_of_le hi h.n)).trans (h.get i hi), k.Γ.trans h.Γ⟩
theorem H.Grown.push (h : H) (o : Obj) : H.Grown h (h.push o) := ⟨by simp, fun i hi => H.get_push_ne h o (Nat.ne_of_lt hi), rfl⟩
theorem H.Grown.some {h h' : H} (g : H.Grown h h') {i : Nat} {o : Obj} (hi : h.get i = .some o) : h'.get i = .some o := by rw [g.get i (H.lt_of_get hi)]; exact hi

/-! ### Operands whose row goes to the heap, comes back, is promised -/
def pinV (v : AV) (st : St) (n : Nat) : AV × St :=
  match v with
  | .slice (.own true) e sz xs => (.hsl st.h.n 0 e sz (xs.length / sz), ⟨upd st.s n (.hsl st.h.n 0 e sz (xs.length / sz)), st.b, st.h.push (.row e sz none xs)⟩)
  | v => (hdV v, st)
def unpinO (ob : Option Obj) (st : St) (n i k e sz m : Nat) : AV × St :=
  match ob with
  | some (.row e' sz' _ xs) => if k = 0 ∧ e' = e ∧ sz' = sz ∧ xs.length = m * sz then (.slice (.own true) e sz xs, ⟨upd st.s n (.slice .hdr e sz xs), st.b, st.h.del i⟩)
    else if k = 0 ∧ e' = e ∧ sz' = sz ∧ m * sz ≤ xs.length then (.slice (.own true) e sz (xs.take (m * sz)), ⟨upd st.s n (.slice .hdr e sz (xs.take (m * sz))), st.b, st.h.del i⟩) else (.hsl i k e sz m, st)
  | _ => (.hsl i k e sz m, st)
def takeU (v : AV) (st : St) (n : Nat) : AV × St :=
  match v with
  | .hsl i k e sz m => unpinO (st.h.get i) st n i k e sz m
  | v => (v, st.set n (lfV v))
def frzO (ob : Option Obj) (st : St) (n i k e sz m : Nat) : AV × St :=
  match ob with
  | some (.row _ _ _ xs) => if k + m * sz ≤ xs.length then (.slice .frz e sz ((xs.drop k).take (m * sz)), ⟨upd st.s n (.slice .frz e sz ((xs.drop k).take (m * sz))), st.b, st.h.set i (.ro xs)⟩) else (.hsl i k e sz m, st)
  | some (.ro xs) => if k + m * sz ≤ xs.length then (.slice .frz e sz ((xs.drop k).take (m * sz)), ⟨upd st.s n (.slice .frz e sz ((xs.drop k).take (m * sz))), st.b, st.h⟩) else (.hsl i k e sz m, st)
  | _ => (.hsl i k e sz m, st)
def giveF (v : AV) (st : St) (n : Nat) : AV × St :=
  match v with
  | .hsl i k e sz m => frzO (st.h.get i) st n i k e sz m
  | v => (gvV v, st.set n (gvV v))
section
variable {st : St} {n i k e sz m e' sz' : Nat} {cp : Option Nat} {xs : List AV} {c : Cls} {b : Bool} {ob : Option Obj}
@[simp] theorem ev_give_m : give st (.m n) = pinV (st.s n) st n := id rfl
@[simp] theorem ev_take_m : take st (.m n) = pinV (st.s n) st n := id rfl
@[simp] theorem ev_copy_m {md : Mode} : copy md st (.m n) = pinV (st.s n) st n := id rfl
@[simp] theorem ev_take_u : take st (.u n) = takeU (st.s n) st n := id rfl
@[simp] theorem ev_take_f : take st (.f n) = (st.s n, st.set n (lfV (st.s n))) := id rfl
@[simp] theorem ev_give_u : give st (.u n) = (gvV (st.s n), st.set n (gvV (st.s n))) := id rfl
@[simp] theorem ev_copy_u {md : Mode} : copy md st (.u n) = (cpV md (st.s n), st.set n (cpS md (st.s n))) := id rfl
@[simp] theorem ev_copy_f {md : Mode} : copy md st (.f n) = (cpV md (st.s n), st.set n (cpS md (st.s n))) := id rfl
@[simp] theorem ev_give_f : give st (.f n) = giveF (st.s n) st n := id rfl
@[simp] theorem ev_peek_m : peek st (.m n) = hdV (st.s n) := id rfl
@[simp] theorem ev_peek_u : peek st (.u n) = hdV (st.s n) := id rfl
@[simp] theorem ev_peek_f : peek st (.f n) = hdV (st.s n) := id rfl
@[simp] theorem pinV_own : pinV (.slice (.own true) e sz xs) st n = (.hsl st.h.n 0 e sz (xs.length / sz), ⟨upd st.s n (.hsl st.h.n 0 e sz (xs.length / sz)), st.b, st.h.push (.row e sz none xs)⟩) := id rfl
@[simp] theorem pinV_hsl : pinV (.hsl i k e sz m) st n = (.hsl i k e sz m, st) := id rfl
@[simp] theorem pinV_nil : pinV (.slice .nil e sz xs) st n = (.slice .nil e sz xs, st) := id rfl
@[simp] theorem takeU_hsl : takeU (.hsl i k e sz m) st n = unpinO (st.h.get i) st n i k e sz m := id rfl
@[simp] theorem takeU_slice : takeU (.slice c e sz xs) st n = (.slice c e sz xs, st.set n (lfV (.slice c e sz xs))) := id rfl
@[simp] theorem takeU_bool {x : Bool} : takeU (.bool x) st n = (.bool x, st.set n (.bool x)) := id rfl
@[simp] theorem takeU_int {kd : IntKind} {x : Int} : takeU (.int kd x) st n = (.int kd x, st.set n (.int kd x)) := id rfl
@[simp] theorem takeU_str {x : List UInt8} : takeU (.str x) st n = (.str x, st.set n (.str x)) := id rfl
@[simp] theorem takeU_flt {kd : FloatKind} {x : Nat} : takeU (.flt kd x) st n = (.flt kd x, st.set n (.flt kd x)) := id rfl
@[simp] theorem takeU_agg {x : List AV} : takeU (.agg x) st n = (.agg x, st.set n (.agg x)) := id rfl
@[simp] theorem takeU_ptr {kk : K} {x : Nat} : takeU (.ptr kk x) st n = (.ptr kk x, st.set n (.ptr kk x)) := id rfl
@[simp] theorem takeU_eptr {x : List AV} : takeU (.eptr x) st n = (.eptr x, st.set n (.eptr x)) := id rfl
@[simp] theorem takeU_nilptr : takeU .nilptr st n = (.nilptr, st.set n .nilptr) := id rfl
@[simp] theorem takeU_iface {t : TypeId} {v : AV} : takeU (.iface t v) st n = (.iface t v, st.set n (.iface t v)) := id rfl
@[simp] theorem takeU_nilI : takeU .nilI st n = (.nilI, st.set n .nilI) := id rfl
@[simp] theorem takeU_fn {f : FuncId} : takeU (.fn f) st n = (.fn f, st.set n (.fn f)) := id rfl
@[simp] theorem takeU_gl {g : Nat} : takeU (.gl g) st n = (.gl g, st.set n (.gl g)) := id rfl
@[simp] theorem takeU_nilfn : takeU .nilfn st n = (.nilfn, st.set n .nilfn) := id rfl
theorem takeU_b (e : Nat) (o : Option (List UInt8)) : takeU (bAV e o) st n = (bAV e o, st.set n (bAV e o)) := by cases o <;> rfl
theorem takeU_BS (e : Nat) (x : BS) : takeU (x.av e) st n = (x.av e, st.set n (x.lv e)) := by cases x <;> rfl
theorem takeU_BSl (e : Nat) (x : BS) : takeU (x.lv e) st n = (x.lv e, st.set n (x.lv e)) := by cases x <;> rfl
theorem takeU_Ks (eB eE : Nat) (ks : Ks) (kn : Bool) : takeU (Ks.av eB eE ks kn) st n = (Ks.av eB eE ks kn, st.set n (Ks.av eB eE ks kn)) := by
  rcases Ks.av_cases eB eE ks kn with ⟨_, _, h⟩ | h <;> rw [h] <;> rfl
@[simp] theorem unpinO_row : unpinO (some (.row e' sz' cp xs)) st n i k e sz m = if k = 0 ∧ e' = e ∧ sz' = sz ∧ xs.length = m * sz then (.slice (.own true) e sz xs, ⟨upd st.s n (.slice .hdr e sz xs), st.b, st.h.del i⟩)
    else if k = 0 ∧ e' = e ∧ sz' = sz ∧ m * sz ≤ xs.length then (.slice (.own true) e sz (xs.take (m * sz)), ⟨upd st.s n (.slice .hdr e sz (xs.take (m * sz))), st.b, st.h.del i⟩) else (.hsl i k e sz m, st) := id rfl
@[simp] theorem unpinO_cells : unpinO (some (.cells xs)) st n i k e sz m = (.hsl i k e sz m, st) := id rfl
@[simp] theorem unpinO_ro : unpinO (some (.ro xs)) st n i k e sz m = (.hsl i k e sz m, st) := id rfl
@[simp] theorem giveF_hsl : giveF (.hsl i k e sz m) st n = frzO (st.h.get i) st n i k e sz m := id rfl
@[simp] theorem giveF_slice : giveF (.slice c e sz xs) st n = (gvV (.slice c e sz xs), st.set n (gvV (.slice c e sz xs))) := id rfl
@[simp] theorem frzO_row : frzO (some (.row e' sz' cp xs)) st n i k e sz m = if k + m * sz ≤ xs.length then (.slice .frz e sz ((xs.drop k).take (m * sz)), ⟨upd st.s n (.slice .frz e sz ((xs.drop k).take (m * sz))), st.b, st.h.set i (.ro xs)⟩) else (.hsl i k e sz m, st) := id rfl
@[simp] theorem frzO_ro : frzO (some (.ro xs)) st n i k e sz m = if k + m * sz ≤ xs.length then (.slice .frz e sz ((xs.drop k).take (m * sz)), ⟨upd st.s n (.slice .frz e sz ((xs.drop k).take (m * sz))), st.b, st.h⟩) else (.hsl i k e sz m, st) := id rfl
end
attribute [simp] takeU_b takeU_BS takeU_BSl takeU_Ks
theorem shr_i64 (n : Int) (k : Nat) : n.fdiv (2 ^ k) = n / 2 ^ k := Int.fdiv_eq_ediv_of_nonneg _ (Int.le_of_lt (Int.pow_pos (by decide)))

@[simp] theorem ev_lenV_hsl (i k e sz n : Nat) : lenV (.hsl i k e sz n) = some (n : Int) := rfl
@[simp] theorem ev_len_hsl (i k e sz n : Nat) : aLen false (.hsl i k e sz n) = some (.int .i64 (n : Int)) := rfl
attribute [simp] Run_some' Option.elim_some
section
variable {m : Mode} {n off e sz : Nat} {cp : Option Nat} {cs : List AV} {v : AV}
@[simp] theorem ldO_cf : ldO m false n off (.cells cs) = (cs[off]?).map fun v => (cpV m v, .cells (splice cs off [cpS m v])) := id rfl
@[simp] theorem ldO_ct : ldO m true n off (.cells cs) = if off + n ≤ cs.length then some (.agg (((cs.drop off).take n).map gvV), .cells (splice cs off (((cs.drop off).take n).map gvV))) else none := id rfl
@[simp] theorem ldO_rf : ldO m false n off (.row e sz cp cs) = (cs[off]?).map fun v => (v, .row e sz cp cs) := id rfl
@[simp] theorem ldO_rt : ldO m true n off (.row e sz cp cs) = if off + n ≤ cs.length then some (.agg ((cs.drop off).take n), .row e sz cp cs) else none := id rfl
@[simp] theorem ldO_of : ldO m false n off (.ro cs) = (cs[off]?).map fun v => (v, .ro cs) := id rfl
@[simp] theorem ldO_ot : ldO m true n off (.ro cs) = if off + n ≤ cs.length then some (.agg ((cs.drop off).take n), .ro cs) else none := id rfl
@[simp] theorem stO_c : stO n off v (.cells cs) = if v.plain && v.cells.length == n && decide (off + n ≤ cs.length) then some (.cells (splice cs off v.cells)) else none := id rfl
@[simp] theorem stO_r : stO n off v (.row e sz cp cs) = if v.plain && !v.isOwn && v.cells.length == n && decide (off + n ≤ cs.length) then some (.row e sz cp (splice cs off v.cells)) else none := id rfl
end
@[simp] theorem bl_some (l : List UInt8) : bl (some l) = l := rfl
@[simp] theorem bl_none : bl none = [] := rfl
theorem BS.opt_own (f : Bool) (l : List UInt8) : (BS.own f l).opt = some l := rfl
/-! ### Bytes written into a row -/
def setL (l : List UInt8) (k : Nat) (ys : List UInt8) : List UInt8 := l.take k ++ ys ++ l.drop (k + ys.length)
theorem setL_length (l : List UInt8) (k : Nat) (ys : List UInt8) (h : k + ys.length ≤ l.length) : (setL l k ys).length = l.length := by simp [setL]; omega
theorem splice_bytes (l : List UInt8) (k : Nat) (ys : List UInt8) (xs : List AV) (hx : xs = byteCells ys) : splice (byteCells l) k xs = byteCells (setL l k ys) := by
  subst hx; simp [splice, setL, byteCells, List.map_take, List.map_drop]
theorem splice_byte (l : List UInt8) (k : Nat) (b : UInt8) : splice (byteCells l) k [.int .u8 (b.toNat : Int)] = byteCells (setL l k [b]) := splice_bytes l k [b] _ rfl
theorem byteCells_get (l : List UInt8) (k : Nat) (h : k < l.length) : (byteCells l)[k]? = some (.int .u8 (l[k].toNat : Int)) := by
  unfold byteCells; rw [List.getElem?_map, List.getElem?_eq_getElem h]; rfl
theorem setL_setL (l : List UInt8) (k : Nat) (ys zs : List UInt8) (h : k + ys.length + zs.length ≤ l.length) : setL (setL l k ys) (k + ys.length) zs = setL l k (ys ++ zs) := by
  have h1 : (l.take k).length = k := by simp; omega
  unfold setL
  have e1 : (l.take k ++ ys ++ l.drop (k + ys.length)).take (k + ys.length) = l.take k ++ ys := by
    rw [List.take_append_of_le_length (by simp; omega), List.take_of_length_le (by simp; omega)]
  have e2 : (l.take k ++ ys ++ l.drop (k + ys.length)).drop (k + ys.length + zs.length) = l.drop (k + (ys ++ zs).length) := by
    rw [List.drop_append, List.drop_of_length_le (by simp; omega)]
    have : k + ys.length + zs.length - (l.take k ++ ys).length = zs.length := by simp; omega
    rw [this, List.drop_drop]
    simp [Nat.add_assoc]
  rw [e1, e2]; simp
end Go.Proofs.YtdnfnobgeddbfaaGreatDoor.Abs
