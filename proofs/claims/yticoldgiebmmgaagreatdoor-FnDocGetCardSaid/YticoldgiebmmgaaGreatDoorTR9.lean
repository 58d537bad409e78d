/- TR1, TR2, TR3, A28, TR4, TR5, TR6, TR7, TR8, TR9 -/
import Derived.Test.YticoldgiebmmgaaGreatDoorA27
/- Values of BSON as trees: how they lie, how many they are, whether they are right, and their bytes. -/
namespace Go.Proofs.YticoldgiebmmgaaGreatDoor.Abs
set_option linter.all false
set_option linter.unusedVariables false

mutual
inductive Tr where
  | mk (k : Int) (t m : List UInt8) (n bi hi : Int) (b : Option (List UInt8)) (kn : Bool) (ks : Ks)
inductive Ks where
  | nil
  | cons (nm : List UInt8) (v : Tr) (r : Ks)
end

def oAV (e : Nat) (l : List UInt8) : AV := if l = [] then .slice .nil 0 1 [] else .slice (.own true) e 1 (byteCells l)

section
variable (eB eE : Nat)
mutual
def Tr.cells : Tr → List AV
  | .mk k t m n bi hi b kn ks => [.int .i64 k, .str t, .str m, .int .i64 n, .int .u64 bi, .int .u64 hi, bAV eB b, Ks.av ks kn]
def Ks.av : Ks → Bool → AV
  | .nil, kn => if kn then .slice .nil 0 1 [] else .slice .frz eE 9 []
  | .cons nm v r, _ => .slice .frz eE 9 (.str nm :: (Tr.cells v ++ Ks.flat r))
def Ks.flat : Ks → List AV
  | .nil => []
  | .cons nm v r => .str nm :: (Tr.cells v ++ Ks.flat r)
end
def Tr.av (v : Tr) : AV := .agg (v.cells eB eE)
def eAV (nm : List UInt8) (v : Tr) : AV := .agg (.str nm :: v.cells eB eE)

@[simp] theorem Tr.cells_length (v : Tr) : (v.cells eB eE).length = 8 := by cases v; simp [Tr.cells]
end

def Ks.len : Ks → Nat
  | .nil => 0
  | .cons _ _ r => r.len + 1
def Ks.app : Ks → Ks → Ks
  | .nil, r => r
  | .cons nm v s, r => .cons nm v (s.app r)
theorem Ks.app_nil : ∀ (a : Ks), a.app .nil = a
  | .nil => rfl
  | .cons nm v s => by simp [Ks.app, Ks.app_nil s]
section
variable (eB eE : Nat)
theorem Ks.flat_length : ∀ (a : Ks), (a.flat eB eE).length = 9 * a.len
  | .nil => by simp [Ks.flat, Ks.len]
  | .cons nm v s => by simp [Ks.flat, Ks.len, Ks.flat_length s, Tr.cells_length]; omega

theorem Ks.av_cases (ks : Ks) (kn : Bool) : (ks = .nil ∧ kn = true ∧ Ks.av eB eE ks kn = .slice .nil 0 1 []) ∨ (Ks.av eB eE ks kn = .slice .frz eE 9 (ks.flat eB eE)) := by
  cases ks with
  | nil => cases kn <;> simp [Ks.av, Ks.flat]
  | cons nm v r => right; simp [Ks.av, Ks.flat]
@[simp] theorem Ks.av_len (ks : Ks) (kn : Bool) : aLen false (Ks.av eB eE ks kn) = some (.int .i64 ks.len) := by
  rcases Ks.av_cases eB eE ks kn with ⟨rfl, rfl, h⟩ | h
  · rw [h]; simp [Ks.len]
  · rw [h]; simp [Ks.flat_length]
@[simp] theorem Ks.av_gv (ks : Ks) (kn : Bool) : gvV (Ks.av eB eE ks kn) = Ks.av eB eE ks kn := by rcases Ks.av_cases eB eE ks kn with ⟨_, _, h⟩ | h <;> rw [h] <;> rfl
@[simp] theorem Ks.av_lf (ks : Ks) (kn : Bool) : lfV (Ks.av eB eE ks kn) = Ks.av eB eE ks kn := by rcases Ks.av_cases eB eE ks kn with ⟨_, _, h⟩ | h <;> rw [h] <;> rfl
@[simp] theorem Ks.av_left (ks : Ks) (kn : Bool) : (Ks.av eB eE ks kn).cls .left = Ks.av eB eE ks kn := by rcases Ks.av_cases eB eE ks kn with ⟨_, _, h⟩ | h <;> rw [h] <;> rfl
@[simp] theorem Ks.av_plain (ks : Ks) (kn : Bool) : (Ks.av eB eE ks kn).plain = true := by rcases Ks.av_cases eB eE ks kn with ⟨_, _, h⟩ | h <;> rw [h] <;> rfl
@[simp] theorem Ks.av_cells (ks : Ks) (kn : Bool) : (Ks.av eB eE ks kn).cells = [Ks.av eB eE ks kn] := by rcases Ks.av_cases eB eE ks kn with ⟨_, _, h⟩ | h <;> rw [h] <;> rfl
@[simp] theorem Ks.av_kill (t : Nat) (ks : Ks) (kn : Bool) : (Ks.av eB eE ks kn).kill t = Ks.av eB eE ks kn := by rcases Ks.av_cases eB eE ks kn with ⟨_, _, h⟩ | h <;> rw [h] <;> rfl
end

/-! ### What is known of what was read -/
mutual
def Tr.wf : Tr → Prop
  | .mk k t m n bi hi b _ ks => IntKind.i64.min ≤ k ∧ k ≤ IntKind.i64.max ∧ t.length ≤ reachBytes ∧ m.length ≤ reachBytes ∧ IntKind.i64.min ≤ n ∧ n ≤ IntKind.i64.max ∧ IntKind.u64.min ≤ bi ∧ bi ≤ IntKind.u64.max ∧ IntKind.u64.min ≤ hi ∧ hi ≤ IntKind.u64.max ∧ (bl b).length ≤ reachBytes ∧ Ks.len ks ≤ reachBytes ∧ Ks.wf ks
def Ks.wf : Ks → Prop
  | .nil => True
  | .cons nm v r => nm.length ≤ reachBytes ∧ Tr.wf v ∧ Ks.wf r
end

/-! ### How many, how long -/
mutual
def Tr.count : Tr → Int → Int
  | .mk _ _ _ _ _ _ _ _ ks, most => Ks.count ks 1 most
def Ks.count : Ks → Int → Int → Int
  | .nil, n, _ => n
  | .cons _ v r, n, most => if n ≤ most then Ks.count r (n + Tr.count v (most - n)) most else n
end
mutual
def Tr.nodes : Tr → Nat
  | .mk _ _ _ _ _ _ _ _ ks => 1 + Ks.nodes ks
def Ks.nodes : Ks → Nat
  | .nil => 0
  | .cons _ v r => Tr.nodes v + Ks.nodes r
end
mutual
def Tr.nb : Tr → Nat
  | .mk _ t m _ _ _ b _ ks => t.length + m.length + (bl b).length + Ks.nb ks
def Ks.nb : Ks → Nat
  | .nil => 0
  | .cons nm v r => nm.length + Tr.nb v + Ks.nb r
end

/-! ### Right values -/
def plainL : List UInt8 → Bool
  | [] => true
  | c :: r => if c = 0 then false else plainL r

def digL (n : Nat) : List UInt8 :=
  if n < 10 then [UInt8.ofNat (48 + n)] else digL (n / 10) ++ [UInt8.ofNat (48 + n % 10)]

def knownK (k : Int) : Bool := (decide (1 ≤ k) && decide (k ≤ 19)) || k == 255 || k == 127

/-! A value's fields, those that its kind names emptied. -/
def bareT (k : Int) (t : List UInt8) : List UInt8 := if k = 2 ∨ k = 13 ∨ k = 14 ∨ k = 11 ∨ k = 12 ∨ k = 15 then [] else t
def bareM (k : Int) (m : List UInt8) : List UInt8 := if k = 11 then [] else m
def bareN (k n : Int) : Int := if k = 5 ∨ k = 8 ∨ k = 9 ∨ k = 16 ∨ k = 18 then 0 else n
def bareL (k n : Int) : Int := if k = 1 ∨ k = 17 ∨ k = 19 then 0 else n
def bareH (k n : Int) : Int := if k = 19 then 0 else n
def bareB (k : Int) (b : Option (List UInt8)) : Option (List UInt8) := if k = 5 ∨ k = 7 ∨ k = 12 then none else b
def bareK (k : Int) (ks : Ks) : Ks := if k = 3 ∨ k = 4 ∨ k = 15 then .nil else ks
def bareKn (k : Int) (kn : Bool) : Bool := if k = 3 ∨ k = 4 ∨ k = 15 then true else kn
def bareOk (k : Int) (t m : List UInt8) (n bi hi : Int) (b : Option (List UInt8)) (ks : Ks) : Bool :=
  (bareT k t).isEmpty && ((bareM k m).isEmpty && (decide (bareN k n = 0) && (decide (bareL k bi = 0) && (decide (bareH k hi = 0) && (decide ((bl (bareB k b)).length = 0) && decide ((bareK k ks).len = 0))))))

mutual
def Tr.right : Tr → Nat → Bool
  | .mk k t m n bi hi b _ ks, d => knownK k && (d != 0 && (bareOk k t m n bi hi b ks &&
    (if k = 5 then decide (0 ≤ n) && decide (n ≤ 255)
     else if k = 7 ∨ k = 12 then decide ((bl b).length = 12)
     else if k = 8 then decide (n = 0) || decide (n = 1)
     else if k = 16 then decide (-2147483648 ≤ n) && decide (n < 2147483648)
     else if k = 11 then plainL t && plainL m
     else Ks.right ks (k == 4) 0 (d - 1))))
def Ks.right : Ks → Bool → Nat → Nat → Bool
  | .nil, _, _, _ => true
  | .cons nm v r, arr, i, d => plainL nm && (!(arr && nm != digL i) && (Tr.right v d && Ks.right r arr (i + 1) d))
end

/-! ### Bytes -/
def byteOf (n : Int) : UInt8 := UInt8.ofNat (n % 256).toNat
def le32 (n : Int) : List UInt8 := [byteOf n, byteOf (n / 256), byteOf (n / 65536), byteOf (n / 16777216)]
def le64 (n : Int) : List UInt8 := [byteOf n, byteOf (n / 2^8), byteOf (n / 2^16), byteOf (n / 2^24), byteOf (n / 2^32), byteOf (n / 2^40), byteOf (n / 2^48), byteOf (n / 2^56)]
def txtL (s : List UInt8) : List UInt8 := le32 (s.length + 1) ++ (s ++ [0])
def hdL (k : Int) (nm : List UInt8) : List UInt8 := byteOf k :: (nm ++ [0])

mutual
def Tr.val : Tr → List UInt8
  | .mk k t m n bi hi b _ ks =>
    if k = 1 ∨ k = 17 then le64 bi
    else if k = 2 ∨ k = 13 ∨ k = 14 then txtL t
    else if k = 3 ∨ k = 4 then le32 ((Ks.body ks).length + 5) ++ (Ks.body ks ++ [0])
    else if k = 5 then (if n = 2 then le32 ((bl b).length + 4) ++ (2 :: (le32 (bl b).length ++ bl b)) else le32 (bl b).length ++ (byteOf n :: bl b))
    else if k = 7 then bl b
    else if k = 8 then [byteOf n]
    else if k = 9 ∨ k = 18 then le64 n
    else if k = 16 then le32 n
    else if k = 11 then t ++ (0 :: (m ++ [0]))
    else if k = 12 then txtL t ++ bl b
    else if k = 15 then le32 (4 + (txtL t).length + ((Ks.body ks).length + 5)) ++ (txtL t ++ (le32 ((Ks.body ks).length + 5) ++ (Ks.body ks ++ [0])))
    else if k = 19 then le64 bi ++ le64 hi
    else []
def Ks.body : Ks → List UInt8
  | .nil => []
  | .cons nm v r => byteOf (Tr.kind v) :: (nm ++ (0 :: Tr.val v)) ++ Ks.body r
def Tr.kind : Tr → Int
  | .mk k _ _ _ _ _ _ _ _ => k
end
def Ks.doc (ks : Ks) : List UInt8 := le32 (ks.body.length + 5) ++ (ks.body ++ [0])
def elemL (nm : List UInt8) (v : Tr) : List UInt8 := hdL v.kind nm ++ v.val

theorem le32_length (n : Int) : (le32 n).length = 4 := rfl
theorem le64_length (n : Int) : (le64 n).length = 8 := rfl
theorem txtL_length (s : List UInt8) : (txtL s).length = s.length + 5 := by simp [txtL, le32_length]; omega
theorem hdL_length (k : Int) (s : List UInt8) : (hdL k s).length = s.length + 2 := by simp [hdL]

mutual
theorem Tr.val_le : ∀ (v : Tr), v.val.length + 2 ≤ v.nb + 18 * v.nodes
  | .mk k t m n bi hi b kn ks => by
    have h := Ks.body_le ks
    simp only [Tr.nb, Tr.nodes]
    unfold Tr.val
    by_cases c0 : k = 1 ∨ k = 17
    · rw [if_pos c0]; (try simp only [List.length_append, List.length_cons, List.length_nil, le32_length, le64_length, txtL_length]); omega
    rw [if_neg c0]
    by_cases c1 : k = 2 ∨ k = 13 ∨ k = 14
    · rw [if_pos c1]; (try simp only [List.length_append, List.length_cons, List.length_nil, le32_length, le64_length, txtL_length]); omega
    rw [if_neg c1]
    by_cases c2 : k = 3 ∨ k = 4
    · rw [if_pos c2]; (try simp only [List.length_append, List.length_cons, List.length_nil, le32_length, le64_length, txtL_length]); omega
    rw [if_neg c2]
    by_cases c3 : k = 5
    · rw [if_pos c3]; by_cases cn : n = 2
      · rw [if_pos cn]; (try simp only [List.length_append, List.length_cons, List.length_nil, le32_length, le64_length, txtL_length]); omega
      · rw [if_neg cn]; (try simp only [List.length_append, List.length_cons, List.length_nil, le32_length, le64_length, txtL_length]); omega
    rw [if_neg c3]
    by_cases c4 : k = 7
    · rw [if_pos c4]; (try simp only [List.length_append, List.length_cons, List.length_nil, le32_length, le64_length, txtL_length]); omega
    rw [if_neg c4]
    by_cases c5 : k = 8
    · rw [if_pos c5]; (try simp only [List.length_append, List.length_cons, List.length_nil, le32_length, le64_length, txtL_length]); omega
    rw [if_neg c5]
    by_cases c6 : k = 9 ∨ k = 18
    · rw [if_pos c6]; (try simp only [List.length_append, List.length_cons, List.length_nil, le32_length, le64_length, txtL_length]); omega
    rw [if_neg c6]
    by_cases c7 : k = 16
    · rw [if_pos c7]; (try simp only [List.length_append, List.length_cons, List.length_nil, le32_length, le64_length, txtL_length]); omega
    rw [if_neg c7]
    by_cases c8 : k = 11
    · rw [if_pos c8]; (try simp only [List.length_append, List.length_cons, List.length_nil, le32_length, le64_length, txtL_length]); omega
    rw [if_neg c8]
    by_cases c9 : k = 12
    · rw [if_pos c9]; (try simp only [List.length_append, List.length_cons, List.length_nil, le32_length, le64_length, txtL_length]); omega
    rw [if_neg c9]
    by_cases c10 : k = 15
    · rw [if_pos c10]; (try simp only [List.length_append, List.length_cons, List.length_nil, le32_length, le64_length, txtL_length]); omega
    rw [if_neg c10]
    by_cases c11 : k = 19
    · rw [if_pos c11]; (try simp only [List.length_append, List.length_cons, List.length_nil, le32_length, le64_length, txtL_length]); omega
    rw [if_neg c11]
    (try simp only [List.length_append, List.length_cons, List.length_nil, le32_length, le64_length, txtL_length]); omega
theorem Ks.body_le : ∀ (ks : Ks), ks.body.length ≤ ks.nb + 18 * ks.nodes
  | .nil => by simp [Ks.body]
  | .cons nm v r => by
    have h := Tr.val_le v
    have h' := Ks.body_le r
    simp only [Ks.body, Ks.nb, Ks.nodes, List.length_append, List.length_cons]
    omega
end
theorem Ks.doc_length (ks : Ks) : ks.doc.length = ks.body.length + 5 := by simp [Ks.doc, le32_length]; omega
end Go.Proofs.YticoldgiebmmgaaGreatDoor.Abs

/- Rows of bytes that are appended to. -/
namespace Go.Proofs.YticoldgiebmmgaaGreatDoor.Abs
set_option linter.all false
set_option linter.unusedVariables false

inductive BS where
  | nil
  | own (f : Bool) (l : List UInt8)

def BS.av (e : Nat) : BS → AV
  | .nil => .slice .nil 0 1 []
  | .own f l => .slice (.own f) e 1 (byteCells l)
def BS.lv (e : Nat) : BS → AV
  | .nil => .slice .nil 0 1 []
  | .own f l => .slice .hdr e 1 (byteCells l)
def BS.opt : BS → Option (List UInt8)
  | .nil => none
  | .own _ l => some l
def BS.sh : BS → BS
  | .nil => .nil
  | .own _ l => .own false l
def BS.l : BS → List UInt8
  | .nil => []
  | .own _ l => l
def BS.app : BS → List UInt8 → BS
  | .nil, [] => .nil
  | .nil, l => .own true l
  | .own f l, m => .own f (l ++ m)
def BS.mk (l : List UInt8) : BS := BS.nil.app l

theorem BS.l_app (b : BS) (m : List UInt8) : (b.app m).l = b.l ++ m := by cases b <;> cases m <;> simp [BS.app, BS.l]
@[simp] theorem BS.bl_opt (b : BS) : bl b.opt = b.l := by cases b <;> rfl
@[simp] theorem BS.l_mk (m : List UInt8) : (BS.mk m).l = m := by cases m <;> rfl
theorem BS.app_app (b : BS) (m k : List UInt8) : (b.app m).app k = b.app (m ++ k) := by
  cases b <;> cases m <;> cases k <;> simp [BS.app]
theorem BS.nil_app (m : List UInt8) : BS.nil.app m = BS.mk m := rfl
@[simp] theorem BS.sh_l (b : BS) : b.sh.l = b.l := by cases b <;> rfl
@[simp] theorem BS.opt_sh (b : BS) : b.sh.opt = b.opt := by cases b <;> rfl

section
variable (e : Nat) (b : BS)
@[simp] theorem BS.av_gv : gvV (b.av e) = bAV e b.opt := by cases b <;> rfl
@[simp] theorem BS.av_lf : lfV (b.av e) = b.lv e := by cases b <;> rfl
@[simp] theorem BS.av_left : (b.av e).cls .left = b.lv e := by cases b <;> rfl
@[simp] theorem BS.av_cpV_take : cpV .take (b.av e) = b.av e := by cases b <;> rfl
@[simp] theorem BS.av_cpS_take : cpS .take (b.av e) = b.lv e := by cases b <;> rfl
@[simp] theorem BS.av_cpV_look : cpV .look (b.av e) = bAV e b.opt := by cases b <;> rfl
@[simp] theorem BS.av_cpS_look : cpS .look (b.av e) = b.sh.av e := by cases b <;> rfl
@[simp] theorem BS.av_cpV_head : cpV .head (b.av e) = b.lv e := by cases b <;> rfl
@[simp] theorem BS.av_cpS_head : cpS .head (b.av e) = b.av e := by cases b <;> rfl
@[simp] theorem BS.av_plain : (b.av e).plain = true := by cases b <;> rfl
@[simp] theorem BS.av_cells : (b.av e).cells = [b.av e] := by cases b <;> rfl
@[simp] theorem BS.av_kill (t : Nat) : (b.av e).kill t = b.av e := by cases b <;> rfl
@[simp] theorem BS.av_len : aLen false (b.av e) = some (.int .i64 b.l.length) := by cases b <;> simp [BS.av, BS.l, byteCells]
@[simp] theorem BS.lv_gv : gvV (b.lv e) = b.lv e := by cases b <;> rfl
@[simp] theorem BS.lv_cpV (m : Mode) : cpV m (b.lv e) = b.lv e := by cases b <;> cases m <;> rfl
@[simp] theorem BS.lv_cpS (m : Mode) : cpS m (b.lv e) = b.lv e := by cases b <;> cases m <;> rfl
@[simp] theorem BS.lv_len : aLen false (b.lv e) = some (.int .i64 b.l.length) := by cases b <;> simp [BS.lv, BS.l, byteCells]
@[simp] theorem BS.lv_lenV : lenV (b.lv e) = some (b.l.length : Int) := by cases b <;> simp [BS.lv, BS.l, byteCells]
end

inductive Bytes (e : Nat) : AV → List UInt8 → Prop
  | b (o : Option (List UInt8)) : Bytes e (bAV e o) (bl o)
  | s (b : BS) : Bytes e (b.av e) b.l
  | lit (f : Bool) (xs : List AV) (l : List UInt8) (h : xs = byteCells l) : Bytes e (.slice (.own f) e 1 xs) l

theorem apV_bytes {hp : H} {e : Nat} (b : BS) {x : AV} {ys : List UInt8} (hx : Bytes e x ys) (h : b.l.length + ys.length ≤ tooLong) : apV hp e 1 1 false (b.av e) x = some ((b.app ys).av e) := by
  have hm : moreV hp 1 false x = some (byteCells ys) := by
    cases hx with
    | b o => cases o <;> simp [bAV, moreV, bl, byteCells]
    | s b => cases b <;> simp [BS.av, moreV, BS.l, byteCells]
    | lit f xs l h => subst h; simp [moreV]
  cases b with
  | nil =>
    simp only [BS.l, List.length_nil, Nat.zero_add] at h
    cases ys with
    | nil => simp [apV, BS.av, hm, BS.app, byteCells, tooLong]
    | cons c ys => simp [apV, BS.av, hm, BS.app, byteCells] at h ⊢; simp [tooLong] at h ⊢; omega
  | own f l =>
    simp only [BS.l] at h
    simp [apV, BS.av, hm, BS.app, byteCells_append]
    omega
theorem apV_str {hp : H} {e : Nat} (b : BS) (s : List UInt8) (h : b.l.length + s.length ≤ tooLong) : apV hp e 1 1 true (b.av e) (.str s) = some ((b.app s).av e) := by
  cases b with
  | nil =>
    simp only [BS.l, List.length_nil, Nat.zero_add] at h
    cases s with
    | nil => simp [apV, BS.av, moreV, BS.app, byteCells, tooLong]
    | cons c s => simp [apV, BS.av, moreV, BS.app, byteCells] at h ⊢; simp [tooLong] at h ⊢; omega
  | own f l =>
    simp only [BS.l] at h
    simp [apV, BS.av, moreV, BS.app, byteCells_append]
    omega

section
variable {hp : H} {e : Nat} {b : BS}
theorem apV_b {o : Option (List UInt8)} (h : b.l.length + (bl o).length ≤ tooLong) : apV hp e 1 1 false (b.av e) (bAV e o) = some ((b.app (bl o)).av e) := apV_bytes b (.b o) h
theorem apV_l1 {f : Bool} {c : UInt8} (h : b.l.length + 1 ≤ tooLong) : apV hp e 1 1 false (b.av e) (.slice (.own f) e 1 [.int .u8 (c.toNat : Int)]) = some ((b.app [c]).av e) := apV_bytes b (.lit f _ _ rfl) h
theorem apV_l0 {f : Bool} (h : b.l.length + 1 ≤ tooLong) : apV hp e 1 1 false (b.av e) (.slice (.own f) e 1 [.int .u8 0]) = some ((b.app [0]).av e) := apV_bytes b (.lit f _ _ rfl) h
theorem apV_l4 {f : Bool} {c1 c2 c3 c4 : UInt8} (h : b.l.length + 4 ≤ tooLong) : apV hp e 1 1 false (b.av e) (.slice (.own f) e 1 [.int .u8 (c1.toNat : Int), .int .u8 (c2.toNat : Int), .int .u8 (c3.toNat : Int), .int .u8 (c4.toNat : Int)]) = some ((b.app [c1, c2, c3, c4]).av e) := apV_bytes b (.lit f _ _ rfl) h
end

theorem u8_wrap (n : Int) : IntKind.u8.wrap n = ((byteOf n).toNat : Int) := by
  simp [IntKind.wrap, IntKind.signed, IntKind.bits, byteOf]; omega
end Go.Proofs.YticoldgiebmmgaaGreatDoor.Abs

/- Numbers read from bytes, the lowest byte first. -/
namespace Go.Proofs.YticoldgiebmmgaaGreatDoor.Abs
set_option linter.all false
set_option linter.unusedVariables false

def rd32 (a b c d : UInt8) : Int := IntKind.i32.wrap (a.toNat + 256 * b.toNat + 65536 * c.toNat + 16777216 * d.toNat)

theorem i32_wrap (n : Int) : IntKind.i32.wrap n = if n % 4294967296 ≥ 2147483648 then n % 4294967296 - 4294967296 else n % 4294967296 := by
  simp [IntKind.wrap, IntKind.signed, IntKind.bits]
theorem ofInt_wrap32 (n : Int) : BitVec.ofInt 32 (IntKind.i32.wrap n) = BitVec.ofInt 32 n := by
  apply BitVec.eq_of_toInt_eq
  rw [i32_wrap]; simp only [BitVec.toInt_ofInt]
  split <;> simp only [Int.bmod] <;> omega
theorem or_i32 (x : Nat) (c : Nat) (k : Nat) (hx : x < 2 ^ k) (hc : c < 256) (hk : k ≤ 24) :
    orI .i32 (IntKind.i32.wrap (x : Int)) (IntKind.i32.wrap ((c : Int) * 2 ^ k)) = IntKind.i32.wrap ((x : Int) + c * 2 ^ k) := by
  show IntKind.i32.wrap ((BitVec.ofInt 32 (IntKind.i32.wrap (x : Int)) ||| BitVec.ofInt 32 (IntKind.i32.wrap ((c : Int) * 2 ^ k))).toNat : Int) = _
  rw [ofInt_wrap32, ofInt_wrap32]
  have e1 : ((c : Int) * 2 ^ k) = ((c <<< k : Nat) : Int) := by rw [Nat.shiftLeft_eq]; simp
  rw [e1]
  simp only [BitVec.ofInt_natCast]
  have e2 : x ||| (c <<< k) = c <<< k + x := by rw [Nat.or_comm, Nat.shiftLeft_add_eq_or_of_lt hx]
  have hk2 : 2 ^ k ≤ 2 ^ 24 := Nat.pow_le_pow_right (by omega) hk
  have h1 : x < 2 ^ 32 := by omega
  have h2 : c <<< k < 2 ^ 32 := by
    rw [Nat.shiftLeft_eq]
    calc c * 2 ^ k ≤ c * 2 ^ 24 := Nat.mul_le_mul_left _ hk2
      _ < 2 ^ 32 := by omega
  rw [BitVec.toNat_or, BitVec.toNat_ofNat, BitVec.toNat_ofNat, Nat.mod_eq_of_lt h1, Nat.mod_eq_of_lt h2, e2]
  congr 1; omega

theorem sl_b {hp : H} {e : Nat} {l : List UInt8} {i j : Int} (h0 : 0 ≤ i) (h1 : i ≤ j) (h2 : j ≤ l.length) : slSl hp 1 (bAV e (some l)) (some i) (some j) = some (bAV e (some ((l.drop i.toNat).take (j.toNat - i.toNat)))) := by
  simp [slSl, bAV, byteCells, h0, h1, h2, List.map_take, List.map_drop]

/-! ### The law's plain part -/
theorem byteOf_toNat (n : Int) : ((byteOf n).toNat : Int) = n % 256 := by
  unfold byteOf; rw [UInt8.toNat_ofNat']; omega
theorem rd32_le32 {n : Int} (h0 : -2147483648 ≤ n) (h1 : n < 2147483648) : rd32 (byteOf n) (byteOf (n / 256)) (byteOf (n / 65536)) (byteOf (n / 16777216)) = n := by
  unfold rd32
  rw [byteOf_toNat, byteOf_toNat, byteOf_toNat, byteOf_toNat, i32_wrap]
  omega


/-! ### Numbers of 64 bits -/
def rd64 (a b c d e f g h : UInt8) : Int := IntKind.i64.wrap (a.toNat + 2 ^ 8 * b.toNat + 2 ^ 16 * c.toNat + 2 ^ 24 * d.toNat + 2 ^ 32 * e.toNat + 2 ^ 40 * f.toNat + 2 ^ 48 * g.toNat + 2 ^ 56 * h.toNat)
theorem i64_wrap (n : Int) : IntKind.i64.wrap n = if n % 18446744073709551616 ≥ 9223372036854775808 then n % 18446744073709551616 - 18446744073709551616 else n % 18446744073709551616 := by
  simp [IntKind.wrap, IntKind.signed, IntKind.bits]
theorem ofInt_wrap64 (n : Int) : BitVec.ofInt 64 (IntKind.i64.wrap n) = BitVec.ofInt 64 n := by
  apply BitVec.eq_of_toInt_eq
  rw [i64_wrap]; simp only [BitVec.toInt_ofInt]
  split <;> simp only [Int.bmod] <;> omega
theorem or_i64 (x : Nat) (c : Nat) (k : Nat) (hx : x < 2 ^ k) (hc : c < 256) (hk : k ≤ 56) :
    orI .i64 (IntKind.i64.wrap (x : Int)) (IntKind.i64.wrap ((c : Int) * 2 ^ k)) = IntKind.i64.wrap ((x : Int) + c * 2 ^ k) := by
  show IntKind.i64.wrap ((BitVec.ofInt 64 (IntKind.i64.wrap (x : Int)) ||| BitVec.ofInt 64 (IntKind.i64.wrap ((c : Int) * 2 ^ k))).toNat : Int) = _
  rw [ofInt_wrap64, ofInt_wrap64]
  have e1 : ((c : Int) * 2 ^ k) = ((c <<< k : Nat) : Int) := by rw [Nat.shiftLeft_eq]; simp
  rw [e1]
  simp only [BitVec.ofInt_natCast]
  have e2 : x ||| (c <<< k) = c <<< k + x := by rw [Nat.or_comm, Nat.shiftLeft_add_eq_or_of_lt hx]
  have hk2 : 2 ^ k ≤ 2 ^ 56 := Nat.pow_le_pow_right (by omega) hk
  have h1 : x < 2 ^ 64 := by omega
  have h2 : c <<< k < 2 ^ 64 := by
    rw [Nat.shiftLeft_eq]
    calc c * 2 ^ k ≤ c * 2 ^ 56 := Nat.mul_le_mul_left _ hk2
      _ < 2 ^ 64 := by omega
  rw [BitVec.toNat_or, BitVec.toNat_ofNat, BitVec.toNat_ofNat, Nat.mod_eq_of_lt h1, Nat.mod_eq_of_lt h2, e2]
  congr 1; omega
/-! ### Few, right and short -/
def Tr.sz (v : Tr) : Nat := v.nb + 18 * v.nodes
def Ks.sz (ks : Ks) : Nat := ks.nb + 18 * ks.nodes
def Tr.fine (v : Tr) (c b : Nat) : Bool := decide (v.count c ≤ c) && (v.right 200 && decide (IntKind.i64.wrap v.nb ≤ b))
def Ks.tr (ks : Ks) (kn : Bool) : Tr := .mk 3 [] [] 0 0 0 none kn ks
end Go.Proofs.YticoldgiebmmgaaGreatDoor.Abs

/- The heap, for the simplifier: what is read of it, what is written; calls that are not handed it. -/
namespace Go.Proofs.YticoldgiebmmgaaGreatDoor.Abs
set_option linter.all false
set_option linter.unusedVariables false

/-! ### What names no memory made later -/
@[simp] theorem old_bool (b : Nat) (x : Bool) : (AV.bool x).old b = true := by simp [AV.old]
@[simp] theorem old_int (b : Nat) (k : IntKind) (n : Int) : (AV.int k n).old b = true := by simp [AV.old]
@[simp] theorem old_str (b : Nat) (s : List UInt8) : (AV.str s).old b = true := by simp [AV.old]
@[simp] theorem old_flt (b : Nat) (k : FloatKind) (n : Nat) : (AV.flt k n).old b = true := by simp [AV.old]
@[simp] theorem old_nilI (b : Nat) : (AV.nilI).old b = true := by simp [AV.old]
@[simp] theorem old_iface (b : Nat) (t : TypeId) (v : AV) : (AV.iface t v).old b = v.old b := by simp [AV.old]
@[simp] theorem old_slice (b : Nat) (c : Cls) (e sz : Nat) (xs : List AV) : (AV.slice c e sz xs).old b = oldL b xs := by simp [AV.old]
@[simp] theorem old_agg (b : Nat) (xs : List AV) : (AV.agg xs).old b = oldL b xs := by simp [AV.old]
@[simp] theorem old_tup (b : Nat) (xs : List AV) : (AV.tup xs).old b = oldL b xs := by simp [AV.old]
@[simp] theorem oldL_nil (b : Nat) : oldL b [] = true := by simp [oldL]
@[simp] theorem oldL_cons (b : Nat) (x : AV) (xs : List AV) : oldL b (x :: xs) = (x.old b && oldL b xs) := by simp [oldL]
@[simp] theorem oldL_append (b : Nat) : ∀ (xs ys : List AV), oldL b (xs ++ ys) = (oldL b xs && oldL b ys)
  | [], ys => by simp
  | x :: xs, ys => by simp [oldL_append b xs ys, Bool.and_assoc]
@[simp] theorem oldL_bytes (b : Nat) : ∀ l : List UInt8, oldL b (byteCells l) = true
  | [] => by simp [byteCells]
  | c :: l => by simp [byteCells_cons, oldL_bytes b l]
@[simp] theorem old_bAV (b e : Nat) (o : Option (List UInt8)) : (bAV e o).old b = true := by cases o <;> simp [bAV]
@[simp] theorem old_BS (b e : Nat) (x : BS) : (x.av e).old b = true := by cases x <;> simp [BS.av]
section
variable (b eB eE : Nat)
mutual
theorem old_Tr : ∀ v : Tr, oldL b (v.cells eB eE) = true
  | .mk k t m n bi hi bb kn ks => by simp [Tr.cells, old_Ks ks kn]
theorem old_Ks : ∀ (ks : Ks) (kn : Bool), (Ks.av eB eE ks kn).old b = true
  | .nil, kn => by cases kn <;> simp [Ks.av]
  | .cons nm v r, kn => by simp [Ks.av, old_Tr v, old_Kf r]
theorem old_Kf : ∀ ks : Ks, oldL b (ks.flat eB eE) = true
  | .nil => by simp [Ks.flat]
  | .cons nm v r => by simp [Ks.flat, old_Tr v, old_Kf r]
end
end
attribute [simp] old_Tr old_Ks old_Kf

/-! ### The heap -/
@[simp] theorem H.n_mask (h : H) : h.mask.n = h.n := by simp [H.mask, H.n]
@[simp] theorem H.Γ_mask (h : H) : h.mask.Γ = h.Γ := rfl
attribute [simp] H.n_push H.n_set H.n_del H.Γ_push H.Γ_set H.Γ_del
@[simp] theorem noHeap_mask (h : H) (v : AV) : noHeap h.n (v, h.mask) = some v := by simp [noHeap, H.mask]
@[simp] theorem noHeap_old {b : Nat} {v : AV} {h : H} (hv : v.old b = true) : noHeap b (v, h) = some v := by simp [noHeap, hv]
@[simp] theorem H.get_push_n (h : H) (o : Obj) : (h.push o).get h.n = some o := by rw [H.get_push, if_pos rfl]
theorem H.get_push_ne (h : H) (o : Obj) {i : Nat} (hi : i ≠ h.n) : (h.push o).get i = h.get i := by rw [H.get_push, if_neg hi]
theorem H.lt_of_get {h : H} {i : Nat} {o : Obj} (hi : h.get i = some o) : i < h.n := (H.get_lt hi).2
theorem H.get_set_same {h : H} {i : Nat} {x : Obj} (hx : h.get i = some x) (o : Obj) : (h.set i o).get i = some o := by rw [H.get_set hx, if_pos rfl]
@[simp] theorem H.set_set (h : H) (i : Nat) (o o' : Obj) : (h.set i o).set i o' = h.set i o' := by
  unfold H.set
  split
  · rfl
  · simp
theorem H.set_get {h : H} {i : Nat} {o : Obj} (hx : h.get i = some o) : h.set i o = h := by
  obtain ⟨h1, h2⟩ := H.get_lt hx
  unfold H.set
  rw [if_neg (by omega)]
  unfold H.get at hx
  rw [if_neg (by omega)] at hx
  have : h.l.set (i - h.base) (some o) = h.l := by
    apply List.ext_getElem?
    intro j
    by_cases hj : i - h.base = j
    · subst hj
      rw [List.getElem?_set_self (by unfold H.n at h2; omega)]
      cases hh : h.l[i - h.base]? with
      | none => rw [hh] at hx; cases hx
      | some y => rw [hh] at hx; simp [Option.join] at hx; rw [hx]
    · rw [List.getElem?_set_ne hj]
  rw [this]
@[simp] theorem H.push_set_n (h : H) (o o' : Obj) : (h.push o).set h.n o' = h.push o' := by
  unfold H.push H.set H.n
  simp; omega
structure H.Grown (h h' : H) : Prop where
  n : h.n ≤ h'.n
  get : ∀ i, i < h.n → h'.get i = h.get i
  Γ : h'.Γ = h.Γ
theorem H.Grown.refl (h : H) : H.Grown h h := ⟨Nat.le_refl _, fun _ _ => rfl, rfl⟩
theorem H.Grown.trans {a b c : H} (h : H.Grown a b) (k : H.Grown b c) : H.Grown a c := ⟨Nat.le_trans h.n k.n, fun i hi => (k.get i (Nat.lt_of_lt_of_le hi h.n)).trans (h.get i hi), k.Γ.trans h.Γ⟩
theorem H.Grown.push (h : H) (o : Obj) : H.Grown h (h.push o) := ⟨by simp, fun i hi => H.get_push_ne h o (Nat.ne_of_lt hi), rfl⟩
theorem H.Grown.some {h h' : H} (g : H.Grown h h') {i : Nat} {o : Obj} (hi : h.get i = .some o) : h'.get i = .some o := by rw [g.get i (H.lt_of_get hi)]; exact hi

/-! ### Operands whose row goes to the heap, comes back, is promised -/
def pinV (v : AV) (st : St) (n : Nat) : AV × St :=
  match v with
  | .slice (.own true) e sz xs => (.hsl st.h.n 0 e sz (xs.length / sz), ⟨upd st.s n (.hsl st.h.n 0 e sz (xs.length / sz)), st.b, st.h.push (.row e sz none xs)⟩)
  | v => (hdV v, st)
def unpinO (ob : Option Obj) (st : St) (n i k e sz m : Nat) : AV × St :=
  match ob with
  | some (.row e' sz' _ xs) => if k = 0 ∧ e' = e ∧ sz' = sz ∧ xs.length = m * sz then (.slice (.own true) e sz xs, ⟨upd st.s n (.slice .hdr e sz xs), st.b, st.h.del i⟩)
    else if k = 0 ∧ e' = e ∧ sz' = sz ∧ m * sz ≤ xs.length then (.slice (.own true) e sz (xs.take (m * sz)), ⟨upd st.s n (.slice .hdr e sz (xs.take (m * sz))), st.b, st.h.del i⟩) else (.hsl i k e sz m, st)
  | _ => (.hsl i k e sz m, st)
def takeU (v : AV) (st : St) (n : Nat) : AV × St :=
  match v with
  | .hsl i k e sz m => unpinO (st.h.get i) st n i k e sz m
  | v => (v, st.set n (lfV v))
def frzO (ob : Option Obj) (st : St) (n i k e sz m : Nat) : AV × St :=
  match ob with
  | some (.row _ _ _ xs) => if k + m * sz ≤ xs.length then (.slice .frz e sz ((xs.drop k).take (m * sz)), ⟨upd st.s n (.slice .frz e sz ((xs.drop k).take (m * sz))), st.b, st.h.set i (.ro xs)⟩) else (.hsl i k e sz m, st)
  | some (.ro xs) => if k + m * sz ≤ xs.length then (.slice .frz e sz ((xs.drop k).take (m * sz)), ⟨upd st.s n (.slice .frz e sz ((xs.drop k).take (m * sz))), st.b, st.h⟩) else (.hsl i k e sz m, st)
  | _ => (.hsl i k e sz m, st)
def giveF (v : AV) (st : St) (n : Nat) : AV × St :=
  match v with
  | .hsl i k e sz m => frzO (st.h.get i) st n i k e sz m
  | v => (gvV v, st.set n (gvV v))
section
variable {st : St} {n i k e sz m e' sz' : Nat} {cp : Option Nat} {xs : List AV} {c : Cls} {b : Bool} {ob : Option Obj}
@[simp] theorem ev_give_m : give st (.m n) = pinV (st.s n) st n := id rfl
@[simp] theorem ev_take_m : take st (.m n) = pinV (st.s n) st n := id rfl
@[simp] theorem ev_copy_m {md : Mode} : copy md st (.m n) = pinV (st.s n) st n := id rfl
@[simp] theorem ev_take_u : take st (.u n) = takeU (st.s n) st n := id rfl
@[simp] theorem ev_take_f : take st (.f n) = (st.s n, st.set n (lfV (st.s n))) := id rfl
@[simp] theorem ev_give_u : give st (.u n) = (gvV (st.s n), st.set n (gvV (st.s n))) := id rfl
@[simp] theorem ev_copy_u {md : Mode} : copy md st (.u n) = (cpV md (st.s n), st.set n (cpS md (st.s n))) := id rfl
@[simp] theorem ev_copy_f {md : Mode} : copy md st (.f n) = (cpV md (st.s n), st.set n (cpS md (st.s n))) := id rfl
@[simp] theorem ev_give_f : give st (.f n) = giveF (st.s n) st n := id rfl
@[simp] theorem ev_peek_m : peek st (.m n) = hdV (st.s n) := id rfl
@[simp] theorem ev_peek_u : peek st (.u n) = hdV (st.s n) := id rfl
@[simp] theorem ev_peek_f : peek st (.f n) = hdV (st.s n) := id rfl
@[simp] theorem pinV_own : pinV (.slice (.own true) e sz xs) st n = (.hsl st.h.n 0 e sz (xs.length / sz), ⟨upd st.s n (.hsl st.h.n 0 e sz (xs.length / sz)), st.b, st.h.push (.row e sz none xs)⟩) := id rfl
@[simp] theorem pinV_hsl : pinV (.hsl i k e sz m) st n = (.hsl i k e sz m, st) := id rfl
@[simp] theorem pinV_nil : pinV (.slice .nil e sz xs) st n = (.slice .nil e sz xs, st) := id rfl
@[simp] theorem takeU_hsl : takeU (.hsl i k e sz m) st n = unpinO (st.h.get i) st n i k e sz m := id rfl
@[simp] theorem takeU_slice : takeU (.slice c e sz xs) st n = (.slice c e sz xs, st.set n (lfV (.slice c e sz xs))) := id rfl
@[simp] theorem takeU_bool {x : Bool} : takeU (.bool x) st n = (.bool x, st.set n (.bool x)) := id rfl
@[simp] theorem takeU_int {kd : IntKind} {x : Int} : takeU (.int kd x) st n = (.int kd x, st.set n (.int kd x)) := id rfl
@[simp] theorem takeU_str {x : List UInt8} : takeU (.str x) st n = (.str x, st.set n (.str x)) := id rfl
@[simp] theorem takeU_flt {kd : FloatKind} {x : Nat} : takeU (.flt kd x) st n = (.flt kd x, st.set n (.flt kd x)) := id rfl
@[simp] theorem takeU_agg {x : List AV} : takeU (.agg x) st n = (.agg x, st.set n (.agg x)) := id rfl
@[simp] theorem takeU_ptr {kk : K} {x : Nat} : takeU (.ptr kk x) st n = (.ptr kk x, st.set n (.ptr kk x)) := id rfl
@[simp] theorem takeU_eptr {x : List AV} : takeU (.eptr x) st n = (.eptr x, st.set n (.eptr x)) := id rfl
@[simp] theorem takeU_nilptr : takeU .nilptr st n = (.nilptr, st.set n .nilptr) := id rfl
@[simp] theorem takeU_iface {t : TypeId} {v : AV} : takeU (.iface t v) st n = (.iface t v, st.set n (.iface t v)) := id rfl
@[simp] theorem takeU_nilI : takeU .nilI st n = (.nilI, st.set n .nilI) := id rfl
@[simp] theorem takeU_fn {f : FuncId} : takeU (.fn f) st n = (.fn f, st.set n (.fn f)) := id rfl
@[simp] theorem takeU_gl {g : Nat} : takeU (.gl g) st n = (.gl g, st.set n (.gl g)) := id rfl
@[simp] theorem takeU_nilfn : takeU .nilfn st n = (.nilfn, st.set n .nilfn) := id rfl
theorem takeU_b (e : Nat) (o : Option (List UInt8)) : takeU (bAV e o) st n = (bAV e o, st.set n (bAV e o)) := by cases o <;> rfl
theorem takeU_BS (e : Nat) (x : BS) : takeU (x.av e) st n = (x.av e, st.set n (x.lv e)) := by cases x <;> rfl
theorem takeU_BSl (e : Nat) (x : BS) : takeU (x.lv e) st n = (x.lv e, st.set n (x.lv e)) := by cases x <;> rfl
theorem takeU_Ks (eB eE : Nat) (ks : Ks) (kn : Bool) : takeU (Ks.av eB eE ks kn) st n = (Ks.av eB eE ks kn, st.set n (Ks.av eB eE ks kn)) := by
  rcases Ks.av_cases eB eE ks kn with ⟨_, _, h⟩ | h <;> rw [h] <;> rfl
@[simp] theorem unpinO_row : unpinO (some (.row e' sz' cp xs)) st n i k e sz m = if k = 0 ∧ e' = e ∧ sz' = sz ∧ xs.length = m * sz then (.slice (.own true) e sz xs, ⟨upd st.s n (.slice .hdr e sz xs), st.b, st.h.del i⟩)
    else if k = 0 ∧ e' = e ∧ sz' = sz ∧ m * sz ≤ xs.length then (.slice (.own true) e sz (xs.take (m * sz)), ⟨upd st.s n (.slice .hdr e sz (xs.take (m * sz))), st.b, st.h.del i⟩) else (.hsl i k e sz m, st) := id rfl
@[simp] theorem unpinO_cells : unpinO (some (.cells xs)) st n i k e sz m = (.hsl i k e sz m, st) := id rfl
@[simp] theorem unpinO_ro : unpinO (some (.ro xs)) st n i k e sz m = (.hsl i k e sz m, st) := id rfl
@[simp] theorem giveF_hsl : giveF (.hsl i k e sz m) st n = frzO (st.h.get i) st n i k e sz m := id rfl
@[simp] theorem giveF_slice : giveF (.slice c e sz xs) st n = (gvV (.slice c e sz xs), st.set n (gvV (.slice c e sz xs))) := id rfl
@[simp] theorem frzO_row : frzO (some (.row e' sz' cp xs)) st n i k e sz m = if k + m * sz ≤ xs.length then (.slice .frz e sz ((xs.drop k).take (m * sz)), ⟨upd st.s n (.slice .frz e sz ((xs.drop k).take (m * sz))), st.b, st.h.set i (.ro xs)⟩) else (.hsl i k e sz m, st) := id rfl
@[simp] theorem frzO_ro : frzO (some (.ro xs)) st n i k e sz m = if k + m * sz ≤ xs.length then (.slice .frz e sz ((xs.drop k).take (m * sz)), ⟨upd st.s n (.slice .frz e sz ((xs.drop k).take (m * sz))), st.b, st.h⟩) else (.hsl i k e sz m, st) := id rfl
end
attribute [simp] takeU_b takeU_BS takeU_BSl takeU_Ks
theorem shr_i64 (n : Int) (k : Nat) : n.fdiv (2 ^ k) = n / 2 ^ k := Int.fdiv_eq_ediv_of_nonneg _ (Int.le_of_lt (Int.pow_pos (by decide)))

@[simp] theorem ev_lenV_hsl (i k e sz n : Nat) : lenV (.hsl i k e sz n) = some (n : Int) := rfl
@[simp] theorem ev_len_hsl (i k e sz n : Nat) : aLen false (.hsl i k e sz n) = some (.int .i64 (n : Int)) := rfl
attribute [simp] Run_some' Option.elim_some
section
variable {m : Mode} {n off e sz : Nat} {cp : Option Nat} {cs : List AV} {v : AV}
@[simp] theorem ldO_cf : ldO m false n off (.cells cs) = (cs[off]?).map fun v => (cpV m v, .cells (splice cs off [cpS m v])) := id rfl
@[simp] theorem ldO_ct : ldO m true n off (.cells cs) = if off + n ≤ cs.length then some (.agg (((cs.drop off).take n).map gvV), .cells (splice cs off (((cs.drop off).take n).map gvV))) else none := id rfl
@[simp] theorem ldO_rf : ldO m false n off (.row e sz cp cs) = (cs[off]?).map fun v => (v, .row e sz cp cs) := id rfl
@[simp] theorem ldO_rt : ldO m true n off (.row e sz cp cs) = if off + n ≤ cs.length then some (.agg ((cs.drop off).take n), .row e sz cp cs) else none := id rfl
@[simp] theorem ldO_of : ldO m false n off (.ro cs) = (cs[off]?).map fun v => (v, .ro cs) := id rfl
@[simp] theorem ldO_ot : ldO m true n off (.ro cs) = if off + n ≤ cs.length then some (.agg ((cs.drop off).take n), .ro cs) else none := id rfl
@[simp] theorem stO_c : stO n off v (.cells cs) = if v.plain && v.cells.length == n && decide (off + n ≤ cs.length) then some (.cells (splice cs off v.cells)) else none := id rfl
@[simp] theorem stO_r : stO n off v (.row e sz cp cs) = if v.plain && !v.isOwn && v.cells.length == n && decide (off + n ≤ cs.length) then some (.row e sz cp (splice cs off v.cells)) else none := id rfl
end
@[simp] theorem bl_some (l : List UInt8) : bl (some l) = l := rfl
@[simp] theorem bl_none : bl none = [] := rfl
/-! ### Bytes written into a row -/
def setL (l : List UInt8) (k : Nat) (ys : List UInt8) : List UInt8 := l.take k ++ ys ++ l.drop (k + ys.length)
theorem setL_length (l : List UInt8) (k : Nat) (ys : List UInt8) (h : k + ys.length ≤ l.length) : (setL l k ys).length = l.length := by simp [setL]; omega
theorem splice_bytes (l : List UInt8) (k : Nat) (ys : List UInt8) (xs : List AV) (hx : xs = byteCells ys) : splice (byteCells l) k xs = byteCells (setL l k ys) := by
  subst hx; simp [splice, setL, byteCells, List.map_take, List.map_drop]
theorem splice_byte (l : List UInt8) (k : Nat) (b : UInt8) : splice (byteCells l) k [.int .u8 (b.toNat : Int)] = byteCells (setL l k [b]) := splice_bytes l k [b] _ rfl
theorem byteCells_get (l : List UInt8) (k : Nat) (h : k < l.length) : (byteCells l)[k]? = some (.int .u8 (l[k].toNat : Int)) := by
  unfold byteCells; rw [List.getElem?_map, List.getElem?_eq_getElem h]; rfl
theorem setL_setL (l : List UInt8) (k : Nat) (ys zs : List UInt8) (h : k + ys.length + zs.length ≤ l.length) : setL (setL l k ys) (k + ys.length) zs = setL l k (ys ++ zs) := by
  have h1 : (l.take k).length = k := by simp; omega
  unfold setL
  have e1 : (l.take k ++ ys ++ l.drop (k + ys.length)).take (k + ys.length) = l.take k ++ ys := by
    rw [List.take_append_of_le_length (by simp; omega), List.take_of_length_le (by simp; omega)]
  have e2 : (l.take k ++ ys ++ l.drop (k + ys.length)).drop (k + ys.length + zs.length) = l.drop (k + (ys ++ zs).length) := by
    rw [List.drop_append, List.drop_of_length_le (by simp; omega)]
    have : k + ys.length + zs.length - (l.take k ++ ys).length = zs.length := by simp; omega
    rw [this, List.drop_drop]
    simp [Nat.add_assoc]
  rw [e1, e2]; simp
end Go.Proofs.YticoldgiebmmgaaGreatDoor.Abs

/- Texts read rune by rune: where there is no byte 0, no rune is 0. -/
namespace Go.Proofs.YticoldgiebmmgaaGreatDoor.Abs
set_option linter.all false
set_option linter.unusedVariables false

theorem get!_list (l : List UInt8) (k : Nat) : (ByteArray.mk l.toArray).get! k = (l[k]?).getD 0 := by
  simp only [ByteArray.get!]
  rw [Array.getElem!_eq_getD, Array.getD_eq_getD_getElem?]
  simp [List.getElem?_toArray]; rfl

theorem decode_plain {l : List UInt8} {i : Nat} (hp : ∀ k (h : k < l.length), l[k] ≠ 0) (hi : i < l.length) :
    (Utf8.decode ⟨l.toArray⟩ i).1 ≠ 0 ∧ 1 ≤ (Utf8.decode ⟨l.toArray⟩ i).2 ∧ i + (Utf8.decode ⟨l.toArray⟩ i).2 ≤ l.length ∧ (Utf8.decode ⟨l.toArray⟩ i).1 ≤ 0x10FFFF := by
  unfold Utf8.decode
  simp only [get!_list]
  have hsz : (ByteArray.mk l.toArray).size = l.length := by simp [ByteArray.size]
  rw [hsz]
  have h0 : ((l[i + 0]?).getD 0).toNat ≠ 0 := by
    rw [Nat.add_zero, List.getElem?_eq_getElem hi, Option.getD_some]
    intro e; exact hp i hi (UInt8.toNat_inj.1 e)
  have b0 := ((l[i + 0]?).getD 0).toNat_lt
  have b1 := ((l[i + 1]?).getD 0).toNat_lt
  have b2 := ((l[i + 2]?).getD 0).toNat_lt
  have b3 := ((l[i + 3]?).getD 0).toNat_lt
  generalize ((l[i + 0]?).getD 0).toNat = c0 at *
  generalize ((l[i + 1]?).getD 0).toNat = c1 at *
  generalize ((l[i + 2]?).getD 0).toNat = c2 at *
  generalize ((l[i + 3]?).getD 0).toNat = c3 at *
  split
  · exact ⟨h0, by simp, by simp; omega, by simp; omega⟩
  · split
    · rename_i h1 h2
      simp only [Bool.and_eq_true, decide_eq_true_eq] at h2
      split <;> refine ⟨?_, by simp, ?_, ?_⟩ <;> simp [Utf8.runeError] <;> omega
    · split
      · rename_i h1 h2 h3
        simp only [Bool.and_eq_true, decide_eq_true_eq] at h3
        split
        · rename_i h4
          simp only [Bool.and_eq_true, decide_eq_true_eq] at h4
          refine ⟨?_, by simp, ?_, ?_⟩ <;> simp <;> omega
        · refine ⟨?_, by simp, ?_, ?_⟩ <;> simp [Utf8.runeError] <;> omega
      · split
        · rename_i h1 h2 h3 h4
          simp only [Bool.and_eq_true, decide_eq_true_eq] at h4
          split
          · rename_i h5
            simp only [Bool.and_eq_true, decide_eq_true_eq, Utf8.valid, Bool.or_eq_true] at h5
            refine ⟨?_, by simp, ?_, ?_⟩ <;> simp <;> omega
          · refine ⟨?_, by simp, ?_, ?_⟩ <;> simp [Utf8.runeError] <;> omega
        · refine ⟨?_, by simp, ?_, ?_⟩ <;> simp [Utf8.runeError] <;> omega

theorem plainL_spec : ∀ {l : List UInt8}, plainL l = true → ∀ k (h : k < l.length), l[k] ≠ 0 := by
  intro l
  induction l with
  | nil => intro _ k h; simp at h
  | cons c l ih =>
    intro h k hk
    simp only [plainL] at h
    split at h
    · cases h
    · rename_i hc
      cases k with
      | zero => simpa using hc
      | succ k => simpa using ih h k (by simpa using hk)

theorem iterNext_plain {l : List UInt8} {pos : Nat} (hp : plainL l = true) (hi : pos < l.length) :
    ∃ r w : Nat, iterNext l pos = (.tup [.bool true, .int .i64 pos, .int .i32 r], .iter l (pos + w)) ∧ r ≠ 0 ∧ 1 ≤ w ∧ pos + w ≤ l.length := by
  obtain ⟨h1, h2, h3, h4⟩ := decode_plain (plainL_spec hp) hi
  exact ⟨_, _, by unfold iterNext; rw [if_pos hi], h1, h2, h3⟩
theorem iterNext_end {l : List UInt8} {pos : Nat} (hi : l.length ≤ pos) : iterNext l pos = (.tup [.bool false], .iter l pos) := by
  unfold iterNext; rw [if_neg (by omega)]
theorem nextV_loc {st : St} {t : Nat} {s : List UInt8} {pos : Nat} (h : st.b t = some (.iter s pos)) : nextV (.ptr (.loc t) 0) st = some ((iterNext s pos).1, st.setAt (.loc t) (iterNext s pos).2) := by
  simp [nextV, h]
end Go.Proofs.YticoldgiebmmgaaGreatDoor.Abs

/- Rows of anything that are appended to. -/
namespace Go.Proofs.YticoldgiebmmgaaGreatDoor.Abs
set_option linter.all false
set_option linter.unusedVariables false

inductive RS where
  | nil
  | own (f : Bool) (xs : List AV)
def RS.av (e sz : Nat) : RS → AV
  | .nil => .slice .nil 0 1 []
  | .own f xs => .slice (.own f) e sz xs
def RS.lv (e sz : Nat) : RS → AV
  | .nil => .slice .nil 0 1 []
  | .own f xs => .slice .hdr e sz xs
def RS.fv (e sz : Nat) : RS → AV
  | .nil => .slice .nil 0 1 []
  | .own f xs => .slice .frz e sz xs
def RS.sh : RS → RS
  | .nil => .nil
  | .own _ xs => .own false xs
def RS.l : RS → List AV
  | .nil => []
  | .own _ xs => xs
def RS.app : RS → List AV → RS
  | .nil, [] => .nil
  | .nil, l => .own true l
  | .own f l, m => .own f (l ++ m)
def RS.mk (l : List AV) : RS := RS.nil.app l

theorem RS.l_app (b : RS) (m : List AV) : (b.app m).l = b.l ++ m := by cases b <;> cases m <;> simp [RS.app, RS.l]
@[simp] theorem RS.l_mk (m : List AV) : (RS.mk m).l = m := by cases m <;> rfl
theorem RS.app_app (b : RS) (m k : List AV) : (b.app m).app k = b.app (m ++ k) := by cases b <;> cases m <;> cases k <;> simp [RS.app]
theorem RS.nil_app (m : List AV) : RS.nil.app m = RS.mk m := rfl
@[simp] theorem RS.sh_l (b : RS) : b.sh.l = b.l := by cases b <;> rfl
section
variable (e sz : Nat) (b : RS)
@[simp] theorem RS.av_gv : gvV (b.av e sz) = b.fv e sz := by cases b <;> rfl
@[simp] theorem RS.av_lf : lfV (b.av e sz) = b.lv e sz := by cases b <;> rfl
@[simp] theorem RS.av_left : (b.av e sz).cls .left = b.lv e sz := by cases b <;> rfl
@[simp] theorem RS.av_cpV_take : cpV .take (b.av e sz) = b.av e sz := by cases b <;> rfl
@[simp] theorem RS.av_cpS_take : cpS .take (b.av e sz) = b.lv e sz := by cases b <;> rfl
@[simp] theorem RS.av_cpV_look : cpV .look (b.av e sz) = b.fv e sz := by cases b <;> rfl
@[simp] theorem RS.av_cpS_look : cpS .look (b.av e sz) = b.sh.av e sz := by cases b <;> rfl
@[simp] theorem RS.av_cpV_head : cpV .head (b.av e sz) = b.lv e sz := by cases b <;> rfl
@[simp] theorem RS.av_cpS_head : cpS .head (b.av e sz) = b.av e sz := by cases b <;> rfl
@[simp] theorem RS.av_plain : (b.av e sz).plain = true := by cases b <;> rfl
@[simp] theorem RS.av_cells : (b.av e sz).cells = [b.av e sz] := by cases b <;> rfl
@[simp] theorem RS.av_kill (t : Nat) : (b.av e sz).kill t = b.av e sz := by cases b <;> rfl
@[simp] theorem RS.lv_gv : gvV (b.lv e sz) = b.lv e sz := by cases b <;> rfl
@[simp] theorem RS.lv_cpV (m : Mode) : cpV m (b.lv e sz) = b.lv e sz := by cases b <;> cases m <;> rfl
@[simp] theorem RS.lv_cpS (m : Mode) : cpS m (b.lv e sz) = b.lv e sz := by cases b <;> cases m <;> rfl
@[simp] theorem RS.fv_gv : gvV (b.fv e sz) = b.fv e sz := by cases b <;> rfl
@[simp] theorem RS.fv_cpV (m : Mode) : cpV m (b.fv e sz) = b.fv e sz := by cases b <;> cases m <;> rfl
@[simp] theorem RS.fv_cpS (m : Mode) : cpS m (b.fv e sz) = b.fv e sz := by cases b <;> cases m <;> rfl
@[simp] theorem RS.fv_plain : (b.fv e sz).plain = true := by cases b <;> rfl
@[simp] theorem RS.fv_kill (t : Nat) : (b.fv e sz).kill t = b.fv e sz := by cases b <;> rfl
end
section
variable {e sz : Nat} {b : RS}
theorem RS.av_len {n : Nat} (hs : 0 < sz) (h : b.l.length = n * sz) : aLen false (b.av e sz) = some (.int .i64 n) := by
  cases b with
  | nil => have : n = 0 := by rcases Nat.mul_eq_zero.1 h.symm with h | h <;> omega
           subst this; simp [RS.av]
  | own f xs => simp only [RS.l] at h; simp only [RS.av, ev_len_slice, h, Nat.mul_div_cancel _ hs]
theorem RS.lv_len {n : Nat} (hs : 0 < sz) (h : b.l.length = n * sz) : aLen false (b.lv e sz) = some (.int .i64 n) := by
  cases b with
  | nil => have : n = 0 := by rcases Nat.mul_eq_zero.1 h.symm with h | h <;> omega
           subst this; simp [RS.lv]
  | own f xs => simp only [RS.l] at h; simp only [RS.lv, ev_len_slice, h, Nat.mul_div_cancel _ hs]
theorem RS.fv_len {n : Nat} (hs : 0 < sz) (h : b.l.length = n * sz) : aLen false (b.fv e sz) = some (.int .i64 n) := by
  cases b with
  | nil => have : n = 0 := by rcases Nat.mul_eq_zero.1 h.symm with h | h <;> omega
           subst this; simp [RS.fv]
  | own f xs => simp only [RS.l] at h; simp only [RS.fv, ev_len_slice, h, Nat.mul_div_cancel _ hs]
theorem RS.fv_ix {n k : Nat} (hs : 0 < sz) (h : b.l.length = n * sz) (hk : k < n) : ixV sz (b.fv e sz) (.int .i64 (k : Int)) = some (.eptr (b.l.drop (k * sz))) := by
  cases b with
  | nil =>
    simp only [RS.l, List.length_nil] at h
    have : 0 < n * sz := Nat.mul_pos (by omega) hs
    omega
  | own f xs =>
    simp only [RS.l] at h ⊢
    have h1 : xs.length / sz = n := by rw [h, Nat.mul_div_cancel _ hs]
    have hc : Cls.frz = .frz ∧ sz = sz ∧ (0 : Int) ≤ (k : Int) ∧ (k : Int) < ((xs.length / sz : Nat) : Int) := ⟨rfl, rfl, by omega, by rw [h1]; omega⟩
    show (if Cls.frz = .frz ∧ sz = sz ∧ (0 : Int) ≤ (k : Int) ∧ (k : Int) < ((xs.length / sz : Nat) : Int) then _ else none) = _
    rw [if_pos hc, Int.toNat_natCast]
theorem RS.apV {h : H} {by' : Nat} {f : Bool} {ys : List AV} (hb : ((b.l.length + ys.length) / sz) * by' ≤ tooLong) (hl : b.l.length + ys.length ≤ tooLong) :
    Abs.apV h e sz by' false (b.av e sz) (.slice (.own f) e sz ys) = some ((b.app ys).av e sz) := by
  cases b with
  | nil =>
    simp only [RS.l, List.length_nil, Nat.zero_add] at hb hl
    cases ys with
    | nil => simp [Abs.apV, RS.av, moreV, RS.app]
    | cons y ys => simp only [List.length_cons] at hb hl; simp [Abs.apV, RS.av, moreV, RS.app, hb, hl]
  | own g xs =>
    simp only [RS.l] at hb hl
    simp [Abs.apV, RS.av, moreV, RS.app, hb, hl]
end
def rowsC (e : Nat) (ls : List (List UInt8)) : List AV := ls.map fun l => bAV e (some l)
@[simp] theorem rowsC_cons (e : Nat) (l : List UInt8) (ls : List (List UInt8)) : rowsC e (l :: ls) = bAV e (some l) :: rowsC e ls := rfl
@[simp] theorem rowsC_nil (e : Nat) : rowsC e [] = [] := rfl
def Ks.elems : Ks → List (List UInt8)
  | .nil => []
  | .cons nm v r => elemL nm v :: r.elems
end Go.Proofs.YticoldgiebmmgaaGreatDoor.Abs

/- Memories made one behind the other; rows of plain cells that are only read. -/
namespace Go.Proofs.YticoldgiebmmgaaGreatDoor.Abs
set_option linter.all false
set_option linter.unusedVariables false

def H.app (h : H) (os : List Obj) : H := ⟨h.base, h.l ++ os.map some, h.Γ⟩
theorem H.push_app (h : H) (o : Obj) : h.push o = h.app [o] := rfl
theorem H.app_app (h : H) (a b : List Obj) : (h.app a).app b = h.app (a ++ b) := by simp [H.app]
@[simp] theorem H.n_app (h : H) (os : List Obj) : (h.app os).n = h.n + os.length := by simp [H.app, H.n, Nat.add_assoc]
@[simp] theorem H.Γ_app (h : H) (os : List Obj) : (h.app os).Γ = h.Γ := rfl
@[simp] theorem H.get_app (h : H) (os : List Obj) (j : Nat) : (h.app os).get (h.n + j) = os[j]? := by
  unfold H.get H.app H.n
  simp only
  rw [if_neg (by omega), List.getElem?_append_right (by omega)]
  rw [show h.base + h.l.length + j - h.base - h.l.length = j by omega, List.getElem?_map]
  cases os[j]? <;> rfl
@[simp] theorem H.get_app0 (h : H) (os : List Obj) : (h.app os).get h.n = os[0]? := H.get_app h os 0
theorem H.set_app (h : H) (os : List Obj) {j : Nat} (hj : j < os.length) (o : Obj) : (h.app os).set (h.n + j) o = h.app (os.set j o) := by
  unfold H.set H.app H.n
  simp only
  rw [if_neg (by omega), List.set_append_right _ _ (by omega)]
  congr 1
  rw [show h.base + h.l.length + j - h.base - h.l.length = j by omega, List.map_set]
@[simp] theorem H.set_app0 (h : H) (x : Obj) (os : List Obj) (o : Obj) : (h.app (x :: os)).set h.n o = h.app (o :: os) := H.set_app h (x :: os) (j := 0) (by simp) o
theorem RS.fv_len1 (e : Nat) (b : RS) : aLen false (b.fv e 1) = some (.int .i64 (b.l.length : Int)) := RS.fv_len (by omega) (by omega)
theorem RS.fv_at {e : Nat} {b : RS} {pre r : List AV} {x : AV} (h : b.l = pre ++ x :: r) : ixV 1 (b.fv e 1) (.int .i64 (pre.length : Int)) = some (.eptr (x :: r)) := by
  rw [RS.fv_ix (n := b.l.length) (by omega) (by omega) (by rw [h]; simp)]
  rw [h]; simp
theorem RS.fv_at' {e : Nat} {b : RS} {k : Nat} {pre r : List AV} {x : AV} (h : b.l = pre ++ x :: r) (hk : k = pre.length) : ixV 1 (b.fv e 1) (.int .i64 (k : Int)) = some (.eptr (x :: r)) := by
  subst hk; exact RS.fv_at h
def ptrsF (n m : Nat) : List AV := (List.range m).map fun j => .ptr (.obj (n + (j + 1))) 0
@[simp] theorem ptrsF_zero (n : Nat) : ptrsF n 0 = [] := rfl
/-! ### Arrays of bytes in memory -/
theorem notOwn_bytes (l : List UInt8) : (byteCells l).all (fun c => !c.isOwn) = true := by
  rw [List.all_eq_true]; intro x hx
  obtain ⟨b, _, rfl⟩ := List.mem_map.1 hx
  rfl
theorem hcells_bytes {h : H} {i k m : Nat} {l : List UInt8} (hg : h.get i = some (.cells (byteCells l))) (hk : k + m ≤ l.length) : hcells h i k m = some (byteCells ((l.drop k).take m)) := by
  unfold hcells
  rw [hg]
  simp only
  rw [if_pos ⟨by simpa [byteCells] using hk, notOwn_bytes l⟩]
  simp [byteCells, List.map_drop, List.map_take]
theorem moreV_arr {h : H} {i k e m : Nat} {l : List UInt8} (hg : h.get i = some (.cells (byteCells l))) (hk : k + m ≤ l.length) : moreV h 1 false (.hsl i k e 1 m) = some (byteCells ((l.drop k).take m)) := by
  simp [moreV, hcells_bytes hg hk]
theorem apV_arr {h : H} {i k e m : Nat} {l : List UInt8} (hg : h.get i = some (.cells (byteCells l))) (hk : k + m ≤ l.length) (hm : m ≤ 1073741824) :
    apV h e 1 1 false (.slice .nil 0 1 []) (.hsl i k e 1 m) = some ((BS.mk ((l.drop k).take m)).av e) := by
  have hl : ((l.drop k).take m).length = m := by simp; omega
  simp only [apV, moreV_arr hg hk, Option.bind_some, List.length_nil, Nat.zero_add, byteCells, List.length_map, hl, Nat.div_one, Nat.mul_one]
  rw [if_pos ⟨by simp only [tooLong]; omega, by simp only [tooLong]; omega⟩]
  cases hx : (l.drop k).take m with
  | nil => rw [hx] at hl; simp at hl; subst hl; rfl
  | cons a r => rw [hx] at hl; rw [if_neg (by simp at hl; omega)]; rfl
theorem map_gv_bytes (l : List UInt8) : (byteCells l).map gvV = byteCells l := by
  simp only [byteCells, List.map_map]; apply List.map_congr_left; intro b _; rfl
theorem splice_self (cs : List AV) : splice cs 0 cs = cs := by simp [splice]
theorem ldO_arr {m : Mode} {n : Nat} {l : List UInt8} (hn : l.length = n) : ldO m true n 0 (.cells (byteCells l)) = some (.agg (byteCells l), .cells (byteCells l)) := by
  subst hn
  unfold ldO
  have hl : (byteCells l).length = l.length := by simp [byteCells]
  simp only [Nat.zero_add, hl, Nat.le_refl, if_true, List.drop_zero]
  rw [show (byteCells l).take l.length = byteCells l by rw [← hl, List.take_length], map_gv_bytes, splice_self]
theorem bAV_at {e : Nat} {l : List UInt8} {k : Nat} (hk : k < l.length) : ixV 1 (bAV e (some l)) (.int .i64 (k : Int)) = some (.eptr (.int .u8 (l[k].toNat : Int) :: byteCells (l.drop (k + 1)))) := by
  have h1 : (byteCells l).length = l.length := by simp [byteCells]
  have h2 : (0 : Int) ≤ (k : Int) := by omega
  have h3 : (byteCells l).drop k = .int .u8 (l[k].toNat : Int) :: byteCells (l.drop (k + 1)) := by
    unfold byteCells
    rw [← List.map_drop, List.drop_eq_getElem_cons hk]; rfl
  simp [ixV, bAV, h1, hk, h3]
theorem ex2_0 (a b : AV) : exV (.tup [a, b]) 0 = some (a, .tup [a.cls .left, b]) := rfl
theorem ex2_1 (a b : AV) : exV (.tup [a, b]) 1 = some (b, .tup [a, b.cls .left]) := rfl
theorem ex3_0 (a b c : AV) : exV (.tup [a, b, c]) 0 = some (a, .tup [a.cls .left, b, c]) := rfl
theorem ex3_1 (a b c : AV) : exV (.tup [a, b, c]) 1 = some (b, .tup [a, b.cls .left, c]) := rfl
theorem ex3_2 (a b c : AV) : exV (.tup [a, b, c]) 2 = some (c, .tup [a, b, c.cls .left]) := rfl
end Go.Proofs.YticoldgiebmmgaaGreatDoor.Abs

/- What bytes say of values and elements, whatever they are: lengths, ends, elements one behind the other. -/
namespace Go.Proofs.YticoldgiebmmgaaGreatDoor.Abs
set_option linter.all false

def num32 : List UInt8 → Int
  | a :: b :: c :: d :: _ => rd32 a b c d
  | _ => 0
theorem num32_short {l : List UInt8} (h : l.length < 4) : num32 l = 0 := by
  match l, h with
  | [], _ => rfl
  | [_], _ => rfl
  | [_, _], _ => rfl
  | [_, _, _], _ => rfl
theorem num32_range (l : List UInt8) : -2147483648 ≤ num32 l ∧ num32 l < 2147483648 := by
  unfold num32
  split
  · unfold rd32; rw [i32_wrap]; split <;> omega
  · omega
theorem num32_take {l : List UInt8} {n : Nat} (h : 4 ≤ n) : num32 (l.take n) = num32 l := by
  match l, n, h with
  | [], n, _ => simp
  | [_], n + 4, _ => rfl
  | [_, _], n + 4, _ => rfl
  | [_, _, _], n + 4, _ => rfl
  | _ :: _ :: _ :: _ :: _, n + 4, _ => rfl
def nul : List UInt8 → Option Nat
  | [] => none
  | c :: r => if c = 0 then some 0 else (nul r).map (· + 1)
theorem nul_lt : ∀ {l : List UInt8} {i : Nat}, nul l = some i → i < l.length ∧ l[i]? = some 0 ∧ ∀ j, j < i → ∃ c, l[j]? = some c ∧ c ≠ 0
  | [], i, h => by cases h
  | c :: r, i, h => by
    unfold nul at h
    split at h
    · rename_i hc; injection h with h; subst h; subst hc
      exact ⟨by simp, rfl, fun j hj => absurd hj (by omega)⟩
    · rename_i hc
      cases hn : nul r with
      | none => rw [hn] at h; cases h
      | some k =>
        rw [hn] at h; simp only [Option.map_some, Option.some.injEq] at h; subst h
        obtain ⟨h1, h2, h3⟩ := nul_lt hn
        refine ⟨by simp; omega, by simpa using h2, fun j hj => ?_⟩
        cases j with
        | zero => exact ⟨c, rfl, hc⟩
        | succ j => obtain ⟨d, e1, e2⟩ := h3 j (by omega); exact ⟨d, by simpa using e1, e2⟩
theorem indexByte_nul : ∀ l : List UInt8, Go.Lib.indexByte l 0 = (match nul l with | some i => (i : Int) | none => -1)
  | [] => rfl
  | c :: r => by
    have ih := indexByte_nul r
    unfold nul
    by_cases hc : c = 0
    · simp [Go.Lib.indexByte, hc]
    · rw [if_neg hc]
      cases hn : nul r with
      | none => rw [hn] at ih; simp only at ih; simp [Go.Lib.indexByte, hc, ih]
      | some k =>
        rw [hn] at ih; simp only at ih
        have : ¬ ((k : Int) = -1) := by omega
        simp [Go.Lib.indexByte, hc, ih, this]
theorem nul_plain : ∀ {l r : List UInt8}, plainL l = true → nul (l ++ 0 :: r) = some l.length
  | [], r, _ => by simp [nul]
  | c :: l, r, h => by
    unfold plainL at h
    split at h
    · cases h
    · rename_i hc
      simp [nul, hc, nul_plain (r := r) h]
theorem nul_take {l : List UInt8} {i n : Nat} (h : nul l = some i) (hn : i < n) : nul (l.take n) = some i := by
  induction l generalizing i n with
  | nil => cases h
  | cons c r ih =>
    cases n with
    | zero => omega
    | succ n =>
      unfold nul at h
      rw [List.take_succ_cons]
      unfold nul
      split at h
      · rename_i hc; rw [if_pos hc]; exact h
      · rename_i hc
        rw [if_neg hc]
        cases hk : nul r with
        | none => rw [hk] at h; cases h
        | some k =>
          rw [hk] at h; simp only [Option.map_some, Option.some.injEq] at h; subst h
          rw [ih hk (by omega)]; rfl

def lenD (d : Int) (l : List UInt8) : Option Nat := if 4 ≤ l.length ∧ 0 ≤ num32 l ∧ num32 l + d < 2147483648 then some (num32 l + d).toNat else none
def rxLen (l : List UInt8) : Option Nat := (nul l).bind fun i => (nul (l.drop (i + 1))).map fun j => i + 1 + j + 1
def vLen (k : Int) (l : List UInt8) : Option Nat :=
  if k = 3 ∨ k = 4 ∨ k = 15 then lenD 0 l else if k = 5 then lenD 5 l else if k = 12 then lenD 16 l else if k = 13 ∨ k = 2 ∨ k = 14 then lenD 4 l
  else if k = 8 then some 1 else if k = 9 ∨ k = 1 ∨ k = 18 ∨ k = 17 then some 8 else if k = 19 then some 16 else if k = 16 then some 4
  else if k = 127 ∨ k = 255 ∨ k = 10 ∨ k = 6 then some 0 else if k = 7 then some 12 else if k = 11 then rxLen l else none
theorem rxLen_le {l : List UInt8} {n : Nat} (h : rxLen l = some n) : n ≤ l.length := by
  simp only [rxLen, Option.bind_eq_some_iff, Option.map_eq_some_iff] at h
  obtain ⟨i, h1, j, h2, rfl⟩ := h
  have a := (nul_lt h1).1
  have b := (nul_lt h2).1
  rw [List.length_drop] at b; omega
def vGet (k : Int) (l : List UInt8) : Option Nat := (vLen k l).bind fun n => if n ≤ l.length then some n else none
def eGet : List UInt8 → Option Nat
  | [] => none
  | t :: r => (nul r).bind fun i => (vLen t.toNat (r.drop (i + 1))).bind fun n => if i + 2 + n ≤ r.length + 1 then some (i + 2 + n) else none
theorem eGet_le {l : List UInt8} {m : Nat} (h : eGet l = some m) : 2 ≤ m ∧ m ≤ l.length := by
  cases l with
  | nil => cases h
  | cons t r =>
    simp only [eGet, Option.bind_eq_some_iff] at h
    obtain ⟨i, _, n, _, h⟩ := h
    split at h
    · injection h with h; subst h; simp; omega
    · cases h

def eParts : List UInt8 → Option (UInt8 × List UInt8 × List UInt8)
  | [] => none
  | t :: r => (nul r).map fun i => (t, r.take i, r.drop (i + 1))
theorem eParts_take {l : List UInt8} {m : Nat} (h : eGet l = some m) : ∃ t r i n, l = t :: r ∧ nul r = some i ∧ vLen t.toNat (r.drop (i + 1)) = some n ∧ m = i + 2 + n ∧ i + 1 + n ≤ r.length ∧
    eParts (l.take m) = some (t, r.take i, (r.drop (i + 1)).take n) := by
  cases l with
  | nil => cases h
  | cons t r =>
    simp only [eGet, Option.bind_eq_some_iff] at h
    obtain ⟨i, hi, n, hn, h⟩ := h
    split at h
    · rename_i hle
      injection h with h; subst h
      refine ⟨t, r, i, n, rfl, hi, hn, rfl, by omega, ?_⟩
      rw [show i + 2 + n = (i + 1 + n) + 1 by omega, List.take_succ_cons]
      show (nul (r.take (i + 1 + n))).map _ = _
      rw [nul_take hi (by omega)]
      simp only [Option.map_some, List.take_take, List.drop_take]
      rw [show min i (i + 1 + n) = i by omega, show i + 1 + n - (i + 1) = n by omega]
    · cases h
def eOk (l : List UInt8) : Bool :=
  match eParts l with
  | some (k, _, d) => (vGet k.toNat d).isSome
  | none => false
def kv (e : List UInt8) : Int × List UInt8 :=
  match eParts e with
  | some (t, _, d) => ((t.toNat : Int), d)
  | none => (0, [])
def kvC (eB : Nat) (e : List UInt8) : List AV := [.int .u8 (kv e).1, bAV eB (some (kv e).2)]
def valsC (eB : Nat) (es : List (List UInt8)) : List AV := es.flatMap (kvC eB)
def elemsR : Nat → Int → List UInt8 → List (List UInt8) × Bool
  | 0, _, _ => ([], true)
  | f + 1, n, l => if n ≤ 1 then ([], true) else match eGet l with
    | none => ([], false)
    | some m => if eOk (l.take m) then (l.take m :: (elemsR f (n - m) (l.drop m)).1, (elemsR f (n - m) (l.drop m)).2) else ([], false)
def eDat (e : List UInt8) : Option (List UInt8) := match eParts e with | some (_, _, d) => some d | none => none
def elemsE (inv : List UInt8 → Option (List UInt8)) (o : Option (List UInt8)) : Nat → Int → List UInt8 → Option (List UInt8) × Option (List UInt8)
  | 0, _, _ => (none, none)
  | f + 1, n, l => if n ≤ 1 then (none, none) else match eGet l with
    | none => (o, some l)
    | some m => if eOk (l.take m) then elemsE inv o f (n - m) (l.drop m) else (inv (l.take m), inv (l.take m))
def elemsT : Nat → Int → List UInt8 → List UInt8
  | 0, _, l => l
  | f + 1, n, l => if n ≤ 1 then l else match eGet l with
    | none => l
    | some m => if eOk (l.take m) then elemsT f (n - m) (l.drop m) else l
def elemAt : Nat → Int → List UInt8 → Nat → Nat × List UInt8
  | 0, _, _, _ => (2, [])
  | f + 1, n, l, k => if n ≤ 1 then (2, []) else match eGet l with
    | none => (1, l)
    | some m => (match k with
      | 0 => (0, l.take m)
      | k + 1 => elemAt f (n - m) (l.drop m) k)

def oB (l : List UInt8) : Option (List UInt8) := (BS.mk l).opt
@[simp] theorem bl_oB (l : List UInt8) : bl (oB l) = l := by simp [oB]
theorem oB_some {l : List UInt8} (h : l ≠ []) : oB l = some l := by cases l with | nil => exact absurd rfl h | cons a r => rfl
def rawsC (eB : Nat) (es : List (List UInt8)) : List AV := es.flatMap fun e => [.int .i64 (kv e).1, bAV eB (oB (kv e).2)]
end Go.Proofs.YticoldgiebmmgaaGreatDoor.Abs

/- Right documents' bytes: what is read of them. -/
namespace Go.Proofs.YticoldgiebmmgaaGreatDoor.Abs
set_option linter.all false

theorem num32_le32 {m : Int} {r : List UInt8} (h0 : -2147483648 ≤ m) (h1 : m < 2147483648) : num32 (le32 m ++ r) = m := by
  show rd32 _ _ _ _ = m
  exact rd32_le32 h0 h1
theorem lenD_le32 {m d : Int} {r : List UInt8} (h0 : 0 ≤ m) (hd : 0 ≤ d) (h1 : m + d < 2147483648) : lenD d (le32 m ++ r) = some (m + d).toNat := by
  unfold lenD
  rw [num32_le32 (by omega) (by omega), if_pos ⟨by simp [le32_length], h0, h1⟩]
theorem knownK_cases {k : Int} (h : knownK k = true) : k = 1 ∨ k = 2 ∨ k = 3 ∨ k = 4 ∨ k = 5 ∨ k = 6 ∨ k = 7 ∨ k = 8 ∨ k = 9 ∨ k = 10 ∨ k = 11 ∨ k = 12 ∨ k = 13 ∨ k = 14 ∨ k = 15 ∨ k = 16 ∨ k = 17 ∨ k = 18 ∨ k = 19 ∨ k = 127 ∨ k = 255 := by
  simp [knownK] at h; omega
theorem kind_range {v : Tr} {d : Nat} (h : v.right d = true) : 0 ≤ v.kind ∧ v.kind < 256 := by
  cases v with
  | mk k t m n bi hi bb kn ks =>
  simp only [Tr.right, Bool.and_eq_true] at h
  have := knownK_cases h.1
  simp only [Tr.kind]; omega
theorem rxLen_regex {t m r : List UInt8} (ht : plainL t = true) (hm : plainL m = true) : rxLen (t ++ (0 :: (m ++ [0])) ++ r) = some (t.length + m.length + 2) := by
  unfold rxLen
  rw [List.append_assoc, List.cons_append, nul_plain ht]
  have e : (t ++ 0 :: ((m ++ [0]) ++ r)).drop (t.length + 1) = m ++ 0 :: r := by
    rw [List.drop_append]
    simp
  simp only [Option.bind_some, e, nul_plain hm, Option.map_some]
  congr 1; omega
theorem vLen_val (v : Tr) {dd : Nat} (hR : v.right dd = true) (hs : v.sz ≤ 1000000000) (r : List UInt8) : vLen v.kind (v.val ++ r) = some v.val.length := by
  cases v with
  | mk k t m n bi hi bb kn ks =>
  simp only [Tr.right, Bool.and_eq_true] at hR
  obtain ⟨hk, hd, hbare, hR⟩ := hR
  have hb := Ks.body_le ks
  simp only [Tr.sz, Tr.nb, Tr.nodes] at hs
  have htl := txtL_length t
  simp only [Tr.kind]
  have txt : ∀ r : List UInt8, txtL t ++ r = le32 (t.length + 1) ++ (t ++ [0] ++ r) := fun r => by simp [txtL]
  have nat : ∀ {a : Int} {b : Nat}, a = b → some a.toNat = some b := fun h => by rw [h]; rfl
  rcases knownK_cases hk with rfl | rfl | rfl | rfl | rfl | rfl | rfl | rfl | rfl | rfl | rfl | rfl | rfl | rfl | rfl | rfl | rfl | rfl | rfl | rfl | rfl
  · rfl
  · have hv : (Tr.mk 2 t m n bi hi bb kn ks).val = txtL t := by simp [Tr.val]
    rw [hv]; show lenD 4 _ = _
    rw [txt, lenD_le32 (by omega) (by omega) (by omega)]; exact nat (by rw [htl]; omega)
  · have hv : (Tr.mk 3 t m n bi hi bb kn ks).val = le32 ((ks.body.length : Int) + 5) ++ (ks.body ++ [0]) := by simp [Tr.val]
    rw [hv]; show lenD 0 _ = _
    rw [List.append_assoc, lenD_le32 (by omega) (by omega) (by omega)]; exact nat (by simp [le32_length]; omega)
  · have hv : (Tr.mk 4 t m n bi hi bb kn ks).val = le32 ((ks.body.length : Int) + 5) ++ (ks.body ++ [0]) := by simp [Tr.val]
    rw [hv]; show lenD 0 _ = _
    rw [List.append_assoc, lenD_le32 (by omega) (by omega) (by omega)]; exact nat (by simp [le32_length]; omega)
  · by_cases n2 : n = 2
    · subst n2
      have hv : (Tr.mk 5 t m 2 bi hi bb kn ks).val = le32 (((bl bb).length : Int) + 4) ++ (2 :: (le32 (bl bb).length ++ bl bb)) := by simp [Tr.val]
      rw [hv]; show lenD 5 _ = _
      rw [List.append_assoc, lenD_le32 (by omega) (by omega) (by omega)]; exact nat (by simp [le32_length]; omega)
    · have hv : (Tr.mk 5 t m n bi hi bb kn ks).val = le32 ((bl bb).length : Int) ++ (byteOf n :: bl bb) := by simp [Tr.val, n2]
      rw [hv]; show lenD 5 _ = _
      rw [List.append_assoc, lenD_le32 (by omega) (by omega) (by omega)]; exact nat (by simp [le32_length]; omega)
  · rfl
  · simp only [Int.reduceEq, if_false, or_self, or_false, if_true, true_or, decide_eq_true_eq] at hR
    have hv : (Tr.mk 7 t m n bi hi bb kn ks).val = bl bb := by simp [Tr.val]
    rw [hv, hR]; rfl
  · rfl
  · rfl
  · rfl
  · simp at hR
    have hv : (Tr.mk 11 t m n bi hi bb kn ks).val = t ++ (0 :: (m ++ [0])) := by simp [Tr.val]
    rw [hv]; show rxLen _ = _
    rw [rxLen_regex hR.1 hR.2]; simp; omega
  · simp at hR
    have hv : (Tr.mk 12 t m n bi hi bb kn ks).val = txtL t ++ bl bb := by simp [Tr.val]
    rw [hv]; show lenD 16 _ = _
    rw [List.append_assoc, txt, lenD_le32 (by omega) (by omega) (by omega)]; exact nat (by rw [List.length_append, htl, hR]; omega)
  · have hv : (Tr.mk 13 t m n bi hi bb kn ks).val = txtL t := by simp [Tr.val]
    rw [hv]; show lenD 4 _ = _
    rw [txt, lenD_le32 (by omega) (by omega) (by omega)]; exact nat (by rw [htl]; omega)
  · have hv : (Tr.mk 14 t m n bi hi bb kn ks).val = txtL t := by simp [Tr.val]
    rw [hv]; show lenD 4 _ = _
    rw [txt, lenD_le32 (by omega) (by omega) (by omega)]; exact nat (by rw [htl]; omega)
  · have hv : (Tr.mk 15 t m n bi hi bb kn ks).val = le32 (4 + (txtL t).length + ((Ks.body ks).length + 5)) ++ (txtL t ++ (le32 ((Ks.body ks).length + 5) ++ (Ks.body ks ++ [0]))) := by simp [Tr.val]
    rw [hv]; show lenD 0 _ = _
    rw [List.append_assoc, lenD_le32 (by omega) (by omega) (by omega)]; exact nat (by simp [le32_length]; omega)
  · rfl
  · rfl
  · rfl
  · rfl
  · rfl
  · rfl
theorem vGet_val (v : Tr) {dd : Nat} (hR : v.right dd = true) (hs : v.sz ≤ 1000000000) (r : List UInt8) : vGet v.kind (v.val ++ r) = some v.val.length := by
  simp only [vGet, vLen_val v hR hs r, Option.bind_some, List.length_append]
  rw [if_pos (by omega)]
theorem byteOf_kind {v : Tr} {dd : Nat} (hR : v.right dd = true) : ((byteOf v.kind).toNat : Int) = v.kind := by
  have := kind_range hR
  rw [byteOf_toNat]; omega
theorem elemL_length (nm : List UInt8) (v : Tr) : (elemL nm v).length = nm.length + 2 + v.val.length := by simp [elemL, hdL_length]
theorem elemL_eq (nm : List UInt8) (v : Tr) (r : List UInt8) : elemL nm v ++ r = byteOf v.kind :: (nm ++ 0 :: (v.val ++ r)) := by simp [elemL, hdL]
theorem eGet_elem {nm : List UInt8} {v : Tr} {dd : Nat} (hp : plainL nm = true) (hR : v.right dd = true) (hs : v.sz ≤ 1000000000) (r : List UInt8) : eGet (elemL nm v ++ r) = some (elemL nm v).length := by
  rw [elemL_eq, elemL_length]
  show (nul (nm ++ 0 :: (v.val ++ r))).bind _ = _
  rw [nul_plain hp]
  have e : (nm ++ 0 :: (v.val ++ r)).drop (nm.length + 1) = v.val ++ r := by rw [List.drop_append]; simp
  simp only [Option.bind_some, e, byteOf_kind hR, vLen_val v hR hs r]
  rw [if_pos (by simp; omega)]
theorem eParts_elem {nm : List UInt8} {v : Tr} (hp : plainL nm = true) : eParts (elemL nm v) = some (byteOf v.kind, nm, v.val) := by
  have h := elemL_eq nm v []
  rw [List.append_nil, List.append_nil] at h
  rw [h]
  show (nul (nm ++ 0 :: v.val)).map _ = _
  rw [nul_plain hp]
  simp
def Ks.good : Ks → Prop
  | .nil => True
  | .cons nm v r => plainL nm = true ∧ (∃ d, v.right d = true) ∧ Ks.good r
theorem Ks.right_good : ∀ {ks : Ks} {arr : Bool} {i d : Nat}, ks.right arr i d = true → ks.good
  | .nil, _, _, _, _ => trivial
  | .cons nm v r, arr, i, d, h => by
    simp only [Ks.right, Bool.and_eq_true] at h
    exact ⟨h.1, ⟨d, h.2.2.1⟩, Ks.right_good h.2.2.2⟩
theorem Ks.sz_cons (nm : List UInt8) (v : Tr) (r : Ks) : (Ks.cons nm v r).sz = nm.length + v.sz + r.sz := by simp only [Ks.sz, Tr.sz, Ks.nb, Ks.nodes]; omega
theorem doc_num (ks : Ks) (hs : ks.sz ≤ 1000000000) : num32 ks.doc = ks.body.length + 5 ∧ ks.doc.drop 4 = ks.body ++ [0] := by
  have hb := Ks.body_le ks
  simp only [Ks.sz] at hs
  refine ⟨?_, rfl⟩
  unfold Ks.doc
  rw [num32_le32 (by omega) (by omega)]
end Go.Proofs.YticoldgiebmmgaaGreatDoor.Abs

/- Documents found valid, whatever their bytes: their elements stand one behind the other. -/
namespace Go.Proofs.YticoldgiebmmgaaGreatDoor.Abs
set_option linter.all false

theorem u32_wrap (n : Int) : IntKind.u32.wrap n = n % 4294967296 := by simp [IntKind.wrap, IntKind.signed, IntKind.bits]
theorem ofInt_wrapU32 (n : Int) : BitVec.ofInt 32 (IntKind.u32.wrap n) = BitVec.ofInt 32 n := by
  apply BitVec.eq_of_toInt_eq
  rw [u32_wrap]; simp only [BitVec.toInt_ofInt]
  simp only [Int.bmod]; omega
theorem or_u32 (x : Nat) (c : Nat) (k : Nat) (hx : x < 2 ^ k) (hc : c < 256) (hk : k ≤ 24) :
    orI .u32 (IntKind.u32.wrap (x : Int)) (IntKind.u32.wrap ((c : Int) * 2 ^ k)) = IntKind.u32.wrap ((x : Int) + c * 2 ^ k) := by
  show IntKind.u32.wrap ((BitVec.ofInt 32 (IntKind.u32.wrap (x : Int)) ||| BitVec.ofInt 32 (IntKind.u32.wrap ((c : Int) * 2 ^ k))).toNat : Int) = _
  rw [ofInt_wrapU32, ofInt_wrapU32]
  have e1 : ((c : Int) * 2 ^ k) = ((c <<< k : Nat) : Int) := by rw [Nat.shiftLeft_eq]; simp
  rw [e1]
  simp only [BitVec.ofInt_natCast]
  have e2 : x ||| (c <<< k) = c <<< k + x := by rw [Nat.or_comm, Nat.shiftLeft_add_eq_or_of_lt hx]
  have hk2 : 2 ^ k ≤ 2 ^ 24 := Nat.pow_le_pow_right (by omega) hk
  have h1 : x < 2 ^ 32 := by omega
  have h2 : c <<< k < 2 ^ 32 := by
    rw [Nat.shiftLeft_eq]
    calc c * 2 ^ k ≤ c * 2 ^ 24 := Nat.mul_le_mul_left _ hk2
      _ < 2 ^ 32 := by omega
  rw [BitVec.toNat_or, BitVec.toNat_ofNat, BitVec.toNat_ofNat, Nat.mod_eq_of_lt h1, Nat.mod_eq_of_lt h2, e2]
  congr 1; omega

def eGood (e : List UInt8) : Prop := ∃ t nm d, e = t :: (nm ++ 0 :: d) ∧ eParts e = some (t, nm, d) ∧ vGet t.toNat d = some d.length
end Go.Proofs.YticoldgiebmmgaaGreatDoor.Abs
