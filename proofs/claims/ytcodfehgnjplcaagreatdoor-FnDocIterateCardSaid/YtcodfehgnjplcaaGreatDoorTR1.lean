/- Values of BSON as trees: how they lie, how many they are, whether they are right, and their bytes. -/
import Derived.Test.YtcodfehgnjplcaaGreatDoorA27
namespace Go.Proofs.YtcodfehgnjplcaaGreatDoor.Abs
set_option linter.all false
set_option linter.unusedVariables false

mutual
inductive Tr where
  | mk (k : Int) (t m : List UInt8) (n bi hi : Int) (b : Option (List UInt8)) (kn : Bool) (ks : Ks)
inductive Ks where
  | nil
  | cons (nm : List UInt8) (v : Tr) (r : Ks)
end

def oAV (e : Nat) (l : List UInt8) : AV := if l = [] then .slice .nil 0 1 [] else .slice (.own true) e 1 (byteCells l)

section
variable (eB eE : Nat)
mutual
def Tr.cells : Tr → List AV
  | .mk k t m n bi hi b kn ks => [.int .i64 k, .str t, .str m, .int .i64 n, .int .u64 bi, .int .u64 hi, bAV eB b, Ks.av ks kn]
def Ks.av : Ks → Bool → AV
  | .nil, kn => if kn then .slice .nil 0 1 [] else .slice .frz eE 9 []
  | .cons nm v r, _ => .slice .frz eE 9 (.str nm :: (Tr.cells v ++ Ks.flat r))
def Ks.flat : Ks → List AV
  | .nil => []
  | .cons nm v r => .str nm :: (Tr.cells v ++ Ks.flat r)
end
def Tr.av (v : Tr) : AV := .agg (v.cells eB eE)
def eAV (nm : List UInt8) (v : Tr) : AV := .agg (.str nm :: v.cells eB eE)

@[simp] theorem Tr.cells_length (v : Tr) : (v.cells eB eE).length = 8 := by cases v; simp [Tr.cells]
end

@[simp] theorem bAV_gvm (e : Nat) (o : Option (List UInt8)) : gvV (bAV e o) = bAV e o := bAV_gv e o
def Ks.len : Ks → Nat
  | .nil => 0
  | .cons _ _ r => r.len + 1
def Ks.app : Ks → Ks → Ks
  | .nil, r => r
  | .cons nm v s, r => .cons nm v (s.app r)
theorem Ks.app_nil : ∀ (a : Ks), a.app .nil = a
  | .nil => rfl
  | .cons nm v s => by simp [Ks.app, Ks.app_nil s]
theorem Ks.app_assoc : ∀ (a b c : Ks), (a.app b).app c = a.app (b.app c)
  | .nil, b, c => rfl
  | .cons nm v s, b, c => by simp [Ks.app, Ks.app_assoc s b c]
theorem Ks.len_app : ∀ (a b : Ks), (a.app b).len = a.len + b.len
  | .nil, b => by simp [Ks.app, Ks.len]
  | .cons nm v s, b => by simp [Ks.app, Ks.len, Ks.len_app s b]; omega

section
variable (eB eE : Nat)
theorem Ks.flat_app : ∀ (a b : Ks), (a.app b).flat eB eE = a.flat eB eE ++ b.flat eB eE
  | .nil, b => by simp [Ks.app, Ks.flat]
  | .cons nm v s, b => by simp [Ks.app, Ks.flat, Ks.flat_app s b]
theorem Ks.flat_length : ∀ (a : Ks), (a.flat eB eE).length = 9 * a.len
  | .nil => by simp [Ks.flat, Ks.len]
  | .cons nm v s => by simp [Ks.flat, Ks.len, Ks.flat_length s, Tr.cells_length]; omega

theorem Ks.av_cases (ks : Ks) (kn : Bool) : (ks = .nil ∧ kn = true ∧ Ks.av eB eE ks kn = .slice .nil 0 1 []) ∨ (Ks.av eB eE ks kn = .slice .frz eE 9 (ks.flat eB eE)) := by
  cases ks with
  | nil => cases kn <;> simp [Ks.av, Ks.flat]
  | cons nm v r => right; simp [Ks.av, Ks.flat]
@[simp] theorem Ks.av_len (ks : Ks) (kn : Bool) : aLen false (Ks.av eB eE ks kn) = some (.int .i64 ks.len) := by
  rcases Ks.av_cases eB eE ks kn with ⟨rfl, rfl, h⟩ | h
  · rw [h]; simp [Ks.len]
  · rw [h]; simp [Ks.flat_length]
@[simp] theorem Ks.av_gv (ks : Ks) (kn : Bool) : gvV (Ks.av eB eE ks kn) = Ks.av eB eE ks kn := by rcases Ks.av_cases eB eE ks kn with ⟨_, _, h⟩ | h <;> rw [h] <;> rfl
@[simp] theorem Ks.av_hd (ks : Ks) (kn : Bool) : hdV (Ks.av eB eE ks kn) = Ks.av eB eE ks kn := by rcases Ks.av_cases eB eE ks kn with ⟨_, _, h⟩ | h <;> rw [h] <;> rfl
@[simp] theorem Ks.av_lf (ks : Ks) (kn : Bool) : lfV (Ks.av eB eE ks kn) = Ks.av eB eE ks kn := by rcases Ks.av_cases eB eE ks kn with ⟨_, _, h⟩ | h <;> rw [h] <;> rfl
@[simp] theorem Ks.av_left (ks : Ks) (kn : Bool) : (Ks.av eB eE ks kn).cls .left = Ks.av eB eE ks kn := by rcases Ks.av_cases eB eE ks kn with ⟨_, _, h⟩ | h <;> rw [h] <;> rfl
@[simp] theorem Ks.av_cpV (m : Mode) (ks : Ks) (kn : Bool) : cpV m (Ks.av eB eE ks kn) = Ks.av eB eE ks kn := by rcases Ks.av_cases eB eE ks kn with ⟨_, _, h⟩ | h <;> rw [h] <;> cases m <;> rfl
@[simp] theorem Ks.av_cpS (m : Mode) (ks : Ks) (kn : Bool) : cpS m (Ks.av eB eE ks kn) = Ks.av eB eE ks kn := by rcases Ks.av_cases eB eE ks kn with ⟨_, _, h⟩ | h <;> rw [h] <;> cases m <;> rfl
@[simp] theorem Ks.av_plain (ks : Ks) (kn : Bool) : (Ks.av eB eE ks kn).plain = true := by rcases Ks.av_cases eB eE ks kn with ⟨_, _, h⟩ | h <;> rw [h] <;> rfl
@[simp] theorem Ks.av_cells (ks : Ks) (kn : Bool) : (Ks.av eB eE ks kn).cells = [Ks.av eB eE ks kn] := by rcases Ks.av_cases eB eE ks kn with ⟨_, _, h⟩ | h <;> rw [h] <;> rfl
@[simp] theorem Ks.av_several (ks : Ks) (kn : Bool) : (Ks.av eB eE ks kn).several = false := by rcases Ks.av_cases eB eE ks kn with ⟨_, _, h⟩ | h <;> rw [h] <;> rfl
@[simp] theorem Ks.av_kill (t : Nat) (ks : Ks) (kn : Bool) : (Ks.av eB eE ks kn).kill t = Ks.av eB eE ks kn := by rcases Ks.av_cases eB eE ks kn with ⟨_, _, h⟩ | h <;> rw [h] <;> rfl
@[simp] theorem Ks.av_lenV (ks : Ks) (kn : Bool) : lenV (Ks.av eB eE ks kn) = some (ks.len : Int) := by
  rcases Ks.av_cases eB eE ks kn with ⟨rfl, rfl, h⟩ | h
  · rw [h]; simp [Ks.len]
  · rw [h]; simp [Ks.flat_length]
@[simp] theorem Tr.cells_gv (v : Tr) : (v.cells eB eE).map gvV = v.cells eB eE := by
  cases v; simp [Tr.cells]
@[simp] theorem Tr.cells_take (v : Tr) : (v.cells eB eE).take 8 = v.cells eB eE := by
  rw [List.take_of_length_le]; rw [Tr.cells_length]; exact Nat.le_refl _
theorem Ks.av_ix (pre r : Ks) (nm : List UInt8) (v : Tr) (kn : Bool) : ixV 9 (Ks.av eB eE (pre.app (.cons nm v r)) kn) (.int .i64 pre.len) = some (.eptr (.str nm :: (v.cells eB eE ++ r.flat eB eE))) := by
  rcases Ks.av_cases eB eE (pre.app (.cons nm v r)) kn with ⟨h, _, _⟩ | h
  · cases pre <;> simp [Ks.app] at h
  · rw [h]
    have h1 : (((Ks.flat eB eE (pre.app (.cons nm v r))).length / 9 : Nat) : Int) = pre.len + (r.len + 1) := by
      rw [Ks.flat_length, Ks.len_app]; simp [Ks.len]
    have h2 : (Ks.flat eB eE (pre.app (.cons nm v r))).drop (pre.len * 9) = .str nm :: (v.cells eB eE ++ r.flat eB eE) := by
      rw [Ks.flat_app, List.drop_append, show pre.len * 9 = (pre.flat eB eE).length by rw [Ks.flat_length]; omega]
      simp [Ks.flat]
    have hc : Cls.frz = .frz ∧ 9 = 9 ∧ (0 : Int) ≤ (pre.len : Int) ∧ (pre.len : Int) < (((Ks.flat eB eE (pre.app (.cons nm v r))).length / 9 : Nat) : Int) := ⟨rfl, rfl, by omega, by rw [h1]; omega⟩
    show (if Cls.frz = .frz ∧ 9 = 9 ∧ (0 : Int) ≤ (pre.len : Int) ∧ (pre.len : Int) < (((Ks.flat eB eE (pre.app (cons nm v r))).length / 9 : Nat) : Int) then _ else none) = _
    rw [if_pos hc, Int.toNat_natCast, h2]
end

/-! ### What is known of what was read -/
mutual
def Tr.wf : Tr → Prop
  | .mk k t m n bi hi b _ ks => IntKind.i64.min ≤ k ∧ k ≤ IntKind.i64.max ∧ t.length ≤ reachBytes ∧ m.length ≤ reachBytes ∧ IntKind.i64.min ≤ n ∧ n ≤ IntKind.i64.max ∧ IntKind.u64.min ≤ bi ∧ bi ≤ IntKind.u64.max ∧ IntKind.u64.min ≤ hi ∧ hi ≤ IntKind.u64.max ∧ (bl b).length ≤ reachBytes ∧ Ks.len ks ≤ reachBytes ∧ Ks.wf ks
def Ks.wf : Ks → Prop
  | .nil => True
  | .cons nm v r => nm.length ≤ reachBytes ∧ Tr.wf v ∧ Ks.wf r
end

/-! ### How many, how long -/
mutual
def Tr.count : Tr → Int → Int
  | .mk _ _ _ _ _ _ _ _ ks, most => Ks.count ks 1 most
def Ks.count : Ks → Int → Int → Int
  | .nil, n, _ => n
  | .cons _ v r, n, most => if n ≤ most then Ks.count r (n + Tr.count v (most - n)) most else n
end
mutual
def Tr.nodes : Tr → Nat
  | .mk _ _ _ _ _ _ _ _ ks => 1 + Ks.nodes ks
def Ks.nodes : Ks → Nat
  | .nil => 0
  | .cons _ v r => Tr.nodes v + Ks.nodes r
end
mutual
def Tr.nb : Tr → Nat
  | .mk _ t m _ _ _ b _ ks => t.length + m.length + (bl b).length + Ks.nb ks
def Ks.nb : Ks → Nat
  | .nil => 0
  | .cons nm v r => nm.length + Tr.nb v + Ks.nb r
end

mutual
theorem Tr.count_le : ∀ (v : Tr) (most : Int), 0 ≤ most → 1 ≤ v.count most ∧ v.count most ≤ most + 1
  | .mk _ _ _ _ _ _ _ _ ks, most, h => by
    simp only [Tr.count]
    have := Ks.count_le ks 1 most (by omega) (by omega)
    exact ⟨this.1, this.2⟩
theorem Ks.count_le : ∀ (ks : Ks) (n most : Int), 1 ≤ n → n ≤ most + 1 → n ≤ ks.count n most ∧ ks.count n most ≤ most + 1
  | .nil, n, most, h, h' => by simp only [Ks.count]; omega
  | .cons nm v r, n, most, h, h' => by
    simp only [Ks.count]
    split
    · rename_i hc
      have h1 := Tr.count_le v (most - n) (by omega)
      have h2 := Ks.count_le r (n + v.count (most - n)) most (by omega) (by omega)
      omega
    · omega
end

mutual
theorem Tr.nb_le : ∀ (v : Tr), v.wf → v.nb + reachBytes ≤ 4 * reachBytes * v.nodes
  | .mk _ t m _ _ _ b _ ks, h => by
    simp only [Tr.wf] at h
    obtain ⟨_, _, h1, h2, _, _, _, _, _, _, h3, _, h4⟩ := h
    have := Ks.nb_le ks h4
    simp only [Tr.nb, Tr.nodes, Nat.mul_add]
    simp only [reachBytes] at *; omega
theorem Ks.nb_le : ∀ (ks : Ks), ks.wf → ks.nb ≤ 4 * reachBytes * ks.nodes
  | .nil, _ => by simp [Ks.nb]
  | .cons nm v r, h => by
    have h1 := Tr.nb_le v h.2.1
    have h2 := Ks.nb_le r h.2.2
    have h3 := h.1
    simp only [Ks.nb, Ks.nodes, Nat.mul_add]
    omega
end

mutual
theorem Tr.count_all : ∀ (v : Tr) (most : Int), 0 ≤ most → v.count most ≤ most → v.count most = v.nodes
  | .mk _ _ _ _ _ _ _ _ ks, most, h, hc => by
    simp only [Tr.count] at hc ⊢
    have := Ks.count_all ks 1 most (by omega) hc
    simp only [Tr.nodes]; omega
theorem Ks.count_all : ∀ (ks : Ks) (n most : Int), 1 ≤ n → ks.count n most ≤ most → ks.count n most = n + ks.nodes
  | .nil, n, most, h, hc => by simp [Ks.count, Ks.nodes]
  | .cons nm v r, n, most, h, hc => by
    simp only [Ks.count] at hc ⊢
    split at hc
    · rename_i h0
      have h1 := Tr.count_le v (most - n) (by omega)
      have h2 := Ks.count_le r (n + v.count (most - n)) most (by omega) (by omega)
      rw [if_pos h0]
      have h3 := Tr.count_all v (most - n) (by omega) (by omega)
      have h4 := Ks.count_all r (n + v.count (most - n)) most (by omega) hc
      rw [h4, h3]; simp only [Ks.nodes]; omega
    · omega
end

/-! ### Right values -/
def plainL : List UInt8 → Bool
  | [] => true
  | c :: r => if c = 0 then false else plainL r

def digL (n : Nat) : List UInt8 :=
  if n < 10 then [UInt8.ofNat (48 + n)] else digL (n / 10) ++ [UInt8.ofNat (48 + n % 10)]

def knownK (k : Int) : Bool := (decide (1 ≤ k) && decide (k ≤ 19)) || k == 255 || k == 127

/-! A value's fields, those that its kind names emptied. -/
def bareT (k : Int) (t : List UInt8) : List UInt8 := if k = 2 ∨ k = 13 ∨ k = 14 ∨ k = 11 ∨ k = 12 ∨ k = 15 then [] else t
def bareM (k : Int) (m : List UInt8) : List UInt8 := if k = 11 then [] else m
def bareN (k n : Int) : Int := if k = 5 ∨ k = 8 ∨ k = 9 ∨ k = 16 ∨ k = 18 then 0 else n
def bareL (k n : Int) : Int := if k = 1 ∨ k = 17 ∨ k = 19 then 0 else n
def bareH (k n : Int) : Int := if k = 19 then 0 else n
def bareB (k : Int) (b : Option (List UInt8)) : Option (List UInt8) := if k = 5 ∨ k = 7 ∨ k = 12 then none else b
def bareK (k : Int) (ks : Ks) : Ks := if k = 3 ∨ k = 4 ∨ k = 15 then .nil else ks
def bareKn (k : Int) (kn : Bool) : Bool := if k = 3 ∨ k = 4 ∨ k = 15 then true else kn
def bareOk (k : Int) (t m : List UInt8) (n bi hi : Int) (b : Option (List UInt8)) (ks : Ks) : Bool :=
  (bareT k t).isEmpty && ((bareM k m).isEmpty && (decide (bareN k n = 0) && (decide (bareL k bi = 0) && (decide (bareH k hi = 0) && (decide ((bl (bareB k b)).length = 0) && decide ((bareK k ks).len = 0))))))

mutual
def Tr.right : Tr → Nat → Bool
  | .mk k t m n bi hi b _ ks, d => knownK k && (d != 0 && (bareOk k t m n bi hi b ks &&
    (if k = 5 then decide (0 ≤ n) && decide (n ≤ 255)
     else if k = 7 ∨ k = 12 then decide ((bl b).length = 12)
     else if k = 8 then decide (n = 0) || decide (n = 1)
     else if k = 16 then decide (-2147483648 ≤ n) && decide (n < 2147483648)
     else if k = 11 then plainL t && plainL m
     else Ks.right ks (k == 4) 0 (d - 1))))
def Ks.right : Ks → Bool → Nat → Nat → Bool
  | .nil, _, _, _ => true
  | .cons nm v r, arr, i, d => plainL nm && (!(arr && nm != digL i) && (Tr.right v d && Ks.right r arr (i + 1) d))
end

/-! ### Bytes -/
def byteOf (n : Int) : UInt8 := UInt8.ofNat (n % 256).toNat
def le32 (n : Int) : List UInt8 := [byteOf n, byteOf (n / 256), byteOf (n / 65536), byteOf (n / 16777216)]
def le64 (n : Int) : List UInt8 := [byteOf n, byteOf (n / 2^8), byteOf (n / 2^16), byteOf (n / 2^24), byteOf (n / 2^32), byteOf (n / 2^40), byteOf (n / 2^48), byteOf (n / 2^56)]
def txtL (s : List UInt8) : List UInt8 := le32 (s.length + 1) ++ (s ++ [0])
def hdL (k : Int) (nm : List UInt8) : List UInt8 := byteOf k :: (nm ++ [0])

mutual
def Tr.val : Tr → List UInt8
  | .mk k t m n bi hi b _ ks =>
    if k = 1 ∨ k = 17 then le64 bi
    else if k = 2 ∨ k = 13 ∨ k = 14 then txtL t
    else if k = 3 ∨ k = 4 then le32 ((Ks.body ks).length + 5) ++ (Ks.body ks ++ [0])
    else if k = 5 then (if n = 2 then le32 ((bl b).length + 4) ++ (2 :: (le32 (bl b).length ++ bl b)) else le32 (bl b).length ++ (byteOf n :: bl b))
    else if k = 7 then bl b
    else if k = 8 then [byteOf n]
    else if k = 9 ∨ k = 18 then le64 n
    else if k = 16 then le32 n
    else if k = 11 then t ++ (0 :: (m ++ [0]))
    else if k = 12 then txtL t ++ bl b
    else if k = 15 then le32 (4 + (txtL t).length + ((Ks.body ks).length + 5)) ++ (txtL t ++ (le32 ((Ks.body ks).length + 5) ++ (Ks.body ks ++ [0])))
    else if k = 19 then le64 bi ++ le64 hi
    else []
def Ks.body : Ks → List UInt8
  | .nil => []
  | .cons nm v r => byteOf (Tr.kind v) :: (nm ++ (0 :: Tr.val v)) ++ Ks.body r
def Tr.kind : Tr → Int
  | .mk k _ _ _ _ _ _ _ _ => k
end
def Ks.doc (ks : Ks) : List UInt8 := le32 (ks.body.length + 5) ++ (ks.body ++ [0])
def elemL (nm : List UInt8) (v : Tr) : List UInt8 := hdL v.kind nm ++ v.val

theorem le32_length (n : Int) : (le32 n).length = 4 := rfl
theorem le64_length (n : Int) : (le64 n).length = 8 := rfl
theorem txtL_length (s : List UInt8) : (txtL s).length = s.length + 5 := by simp [txtL, le32_length]; omega
theorem hdL_length (k : Int) (s : List UInt8) : (hdL k s).length = s.length + 2 := by simp [hdL]

mutual
theorem Tr.val_le : ∀ (v : Tr), v.val.length + 2 ≤ v.nb + 18 * v.nodes
  | .mk k t m n bi hi b kn ks => by
    have h := Ks.body_le ks
    simp only [Tr.nb, Tr.nodes]
    unfold Tr.val
    by_cases c0 : k = 1 ∨ k = 17
    · rw [if_pos c0]; (try simp only [List.length_append, List.length_cons, List.length_nil, le32_length, le64_length, txtL_length]); omega
    rw [if_neg c0]
    by_cases c1 : k = 2 ∨ k = 13 ∨ k = 14
    · rw [if_pos c1]; (try simp only [List.length_append, List.length_cons, List.length_nil, le32_length, le64_length, txtL_length]); omega
    rw [if_neg c1]
    by_cases c2 : k = 3 ∨ k = 4
    · rw [if_pos c2]; (try simp only [List.length_append, List.length_cons, List.length_nil, le32_length, le64_length, txtL_length]); omega
    rw [if_neg c2]
    by_cases c3 : k = 5
    · rw [if_pos c3]; by_cases cn : n = 2
      · rw [if_pos cn]; (try simp only [List.length_append, List.length_cons, List.length_nil, le32_length, le64_length, txtL_length]); omega
      · rw [if_neg cn]; (try simp only [List.length_append, List.length_cons, List.length_nil, le32_length, le64_length, txtL_length]); omega
    rw [if_neg c3]
    by_cases c4 : k = 7
    · rw [if_pos c4]; (try simp only [List.length_append, List.length_cons, List.length_nil, le32_length, le64_length, txtL_length]); omega
    rw [if_neg c4]
    by_cases c5 : k = 8
    · rw [if_pos c5]; (try simp only [List.length_append, List.length_cons, List.length_nil, le32_length, le64_length, txtL_length]); omega
    rw [if_neg c5]
    by_cases c6 : k = 9 ∨ k = 18
    · rw [if_pos c6]; (try simp only [List.length_append, List.length_cons, List.length_nil, le32_length, le64_length, txtL_length]); omega
    rw [if_neg c6]
    by_cases c7 : k = 16
    · rw [if_pos c7]; (try simp only [List.length_append, List.length_cons, List.length_nil, le32_length, le64_length, txtL_length]); omega
    rw [if_neg c7]
    by_cases c8 : k = 11
    · rw [if_pos c8]; (try simp only [List.length_append, List.length_cons, List.length_nil, le32_length, le64_length, txtL_length]); omega
    rw [if_neg c8]
    by_cases c9 : k = 12
    · rw [if_pos c9]; (try simp only [List.length_append, List.length_cons, List.length_nil, le32_length, le64_length, txtL_length]); omega
    rw [if_neg c9]
    by_cases c10 : k = 15
    · rw [if_pos c10]; (try simp only [List.length_append, List.length_cons, List.length_nil, le32_length, le64_length, txtL_length]); omega
    rw [if_neg c10]
    by_cases c11 : k = 19
    · rw [if_pos c11]; (try simp only [List.length_append, List.length_cons, List.length_nil, le32_length, le64_length, txtL_length]); omega
    rw [if_neg c11]
    (try simp only [List.length_append, List.length_cons, List.length_nil, le32_length, le64_length, txtL_length]); omega
theorem Ks.body_le : ∀ (ks : Ks), ks.body.length ≤ ks.nb + 18 * ks.nodes
  | .nil => by simp [Ks.body]
  | .cons nm v r => by
    have h := Tr.val_le v
    have h' := Ks.body_le r
    simp only [Ks.body, Ks.nb, Ks.nodes, List.length_append, List.length_cons]
    omega
end
theorem Ks.doc_length (ks : Ks) : ks.doc.length = ks.body.length + 5 := by simp [Ks.doc, le32_length]; omega
end Go.Proofs.YtcodfehgnjplcaaGreatDoor.Abs
