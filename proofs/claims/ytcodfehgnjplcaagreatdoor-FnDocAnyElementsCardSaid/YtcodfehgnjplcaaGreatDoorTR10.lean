/- TR9, TR10 -/
import Derived.Test.YtcodfehgnjplcaaGreatDoorTR8
/- Documents found valid, whatever their bytes: their elements stand one behind the other. -/
namespace Go.Proofs.YtcodfehgnjplcaaGreatDoor.Abs
set_option linter.all false

theorem u32_wrap (n : Int) : IntKind.u32.wrap n = n % 4294967296 := by simp [IntKind.wrap, IntKind.signed, IntKind.bits]
theorem ofInt_wrapU32 (n : Int) : BitVec.ofInt 32 (IntKind.u32.wrap n) = BitVec.ofInt 32 n := by
  apply BitVec.eq_of_toInt_eq
  rw [u32_wrap]; simp only [BitVec.toInt_ofInt]
  simp only [Int.bmod]; omega
theorem or_u32 (x : Nat) (c : Nat) (k : Nat) (hx : x < 2 ^ k) (hc : c < 256) (hk : k ≤ 24) :
    orI .u32 (IntKind.u32.wrap (x : Int)) (IntKind.u32.wrap ((c : Int) * 2 ^ k)) = IntKind.u32.wrap ((x : Int) + c * 2 ^ k) := by
  show IntKind.u32.wrap ((BitVec.ofInt 32 (IntKind.u32.wrap (x : Int)) ||| BitVec.ofInt 32 (IntKind.u32.wrap ((c : Int) * 2 ^ k))).toNat : Int) = _
  rw [ofInt_wrapU32, ofInt_wrapU32]
  have e1 : ((c : Int) * 2 ^ k) = ((c <<< k : Nat) : Int) := by rw [Nat.shiftLeft_eq]; simp
  rw [e1]
  simp only [BitVec.ofInt_natCast]
  have e2 : x ||| (c <<< k) = c <<< k + x := by rw [Nat.or_comm, Nat.shiftLeft_add_eq_or_of_lt hx]
  have hk2 : 2 ^ k ≤ 2 ^ 24 := Nat.pow_le_pow_right (by omega) hk
  have h1 : x < 2 ^ 32 := by omega
  have h2 : c <<< k < 2 ^ 32 := by
    rw [Nat.shiftLeft_eq]
    calc c * 2 ^ k ≤ c * 2 ^ 24 := Nat.mul_le_mul_left _ hk2
      _ < 2 ^ 32 := by omega
  rw [BitVec.toNat_or, BitVec.toNat_ofNat, BitVec.toNat_ofNat, Nat.mod_eq_of_lt h1, Nat.mod_eq_of_lt h2, e2]
  congr 1; omega

def eGood (e : List UInt8) : Prop := ∃ t nm d, e = t :: (nm ++ 0 :: d) ∧ eParts e = some (t, nm, d) ∧ vGet t.toNat d = some d.length
theorem take_nul {r : List UInt8} {i : Nat} (h : nul r = some i) : r = r.take i ++ 0 :: r.drop (i + 1) := by
  obtain ⟨h1, h2, _⟩ := nul_lt h
  rw [List.getElem?_eq_getElem h1] at h2
  injection h2 with h2
  have := List.take_append_drop i r
  rw [List.drop_eq_getElem_cons h1, h2] at this
  exact this.symm
theorem eGood_of {l : List UInt8} {m : Nat} (h : eGet l = some m) (hk : eOk (l.take m) = true) : eGood (l.take m) := by
  obtain ⟨t, r, i, n, rfl, hn, hv, rfl, hle, hp⟩ := eParts_take h
  unfold eOk at hk
  simp only [hp] at hk
  cases hg : vGet (t.toNat : Int) ((r.drop (i + 1)).take n) with
  | none => rw [hg] at hk; cases hk
  | some q =>
    have hq := vGet_cut hv (by rw [List.length_drop]; omega) hg
    subst hq
    refine ⟨t, r.take i, (r.drop (i + 1)).take q, ?_, hp, ?_⟩
    · have h1 := take_nul hn
      have h2 : (t :: r).take (i + 2 + q) = t :: (r.take (i + 1 + q)) := by rw [show i + 2 + q = (i + 1 + q) + 1 by omega, List.take_succ_cons]
      rw [h2]
      congr 1
      have h3 : r.take (i + 1 + q) = (r.take i ++ 0 :: r.drop (i + 1)).take (i + 1 + q) := by rw [← h1]
      rw [h3, List.take_append]
      have hl : (r.take i).length = i := by rw [List.length_take]; omega
      rw [hl, List.take_of_length_le (by omega), show i + 1 + q - i = q + 1 by omega, List.take_succ_cons]
    · rw [hg, List.length_take, List.length_drop]; congr 1; omega
theorem elemsR_good : ∀ (f : Nat) (n : Int) (l : List UInt8), ∀ e ∈ (elemsR f n l).1, eGood e
  | 0, n, l, e, h => by simp [elemsR] at h
  | f + 1, n, l, e, h => by
    simp only [elemsR] at h
    split at h
    · simp at h
    · split at h
      · simp at h
      · rename_i m hm
        split at h
        · rename_i hk
          simp only [List.mem_cons] at h
          rcases h with rfl | h
          · exact eGood_of hm hk
          · exact elemsR_good f _ _ e h
        · simp at h
theorem elemsR_split : ∀ (f : Nat) (n : Int) (l : List UInt8), l.length < f → (elemsR f n l).2 = true → l = (elemsR f n l).1.flatten ++ elemsT f n l ∧ n - (elemsR f n l).1.flatten.length ≤ 1
  | 0, n, l, h, _ => by omega
  | f + 1, n, l, h, h2 => by
    simp only [elemsR, elemsT] at h2 ⊢
    by_cases hn : n ≤ 1
    · rw [if_pos hn, if_pos hn]; simp; omega
    · rw [if_neg hn] at h2
      rw [if_neg hn, if_neg hn]
      cases hm : eGet l with
      | none => rw [hm] at h2; simp at h2
      | some m =>
        rw [hm] at h2
        simp only at h2 ⊢
        have hle := eGet_le hm
        split at h2
        · rename_i hk
          obtain ⟨i1, i2⟩ := elemsR_split f (n - m) (l.drop m) (by rw [List.length_drop]; omega) h2
          simp only [hk, if_true, List.flatten_cons, List.append_assoc, List.length_append, List.length_take]
          refine ⟨?_, by omega⟩
          rw [← i1, List.take_append_drop]
        · cases h2
end Go.Proofs.YtcodfehgnjplcaaGreatDoor.Abs

/- Elements one behind the other, whatever their values say. -/
namespace Go.Proofs.YtcodfehgnjplcaaGreatDoor.Abs
set_option linter.all false

def partsR : Nat → Int → List UInt8 → List (List UInt8) × Bool
  | 0, _, _ => ([], true)
  | f + 1, n, l => if n ≤ 1 then ([], true) else match eGet l with
    | none => ([], false)
    | some m => (l.take m :: (partsR f (n - m) (l.drop m)).1, (partsR f (n - m) (l.drop m)).2)
def partsT : Nat → Int → List UInt8 → List UInt8
  | 0, _, l => l
  | f + 1, n, l => if n ≤ 1 then l else match eGet l with
    | none => l
    | some m => partsT f (n - m) (l.drop m)
theorem elemsR_parts : ∀ (f : Nat) (n : Int) (l : List UInt8), elemsR f n l = ((partsR f n l).1.takeWhile eOk, (partsR f n l).1.all eOk && (partsR f n l).2)
  | 0, n, l => rfl
  | f + 1, n, l => by
    simp only [elemsR, partsR]
    by_cases hn : n ≤ 1
    · simp [hn]
    · rw [if_neg hn, if_neg hn]
      cases he : eGet l with
      | none => simp
      | some m =>
        simp only
        cases hk : eOk (l.take m) with
        | false => simp [List.takeWhile_cons, hk]
        | true => simp [List.takeWhile_cons, hk, elemsR_parts f (n - m) (l.drop m)]
theorem partsR_ne : ∀ (f : Nat) (n : Int) (l : List UInt8), ∀ e ∈ (partsR f n l).1, ∃ l' m, eGet l' = some m ∧ e = l'.take m ∧ l'.length ≤ l.length
  | 0, n, l, e, h => by simp [partsR] at h
  | f + 1, n, l, e, h => by
    simp only [partsR] at h
    split at h
    · simp at h
    · split at h
      · simp at h
      · rename_i m hm
        simp only [List.mem_cons] at h
        rcases h with rfl | h
        · exact ⟨l, m, hm, rfl, Nat.le_refl _⟩
        · obtain ⟨l', m', h1, h2, h3⟩ := partsR_ne f _ _ e h
          rw [List.length_drop] at h3
          exact ⟨l', m', h1, h2, by omega⟩
theorem partsR_len : ∀ (f : Nat) (n : Int) (l : List UInt8), (partsR f n l).1.flatten.length ≤ l.length ∧ (partsR f n l).1.length ≤ l.length
  | 0, n, l => by simp [partsR]
  | f + 1, n, l => by
    simp only [partsR]
    split
    · simp
    · split
      · simp
      · rename_i m hm
        have := eGet_le hm
        have ih := partsR_len f (n - m) (l.drop m)
        rw [List.length_drop] at ih
        simp only [List.flatten_cons, List.length_append, List.length_take, List.length_cons]
        omega
def nmE (e : List UInt8) : List UInt8 := match eParts e with | some (_, nm, _) => nm | none => []
def partC (eB : Nat) (e : List UInt8) : List AV := [.str (nmE e), .int .i64 (kv e).1, bAV eB (some (kv e).2), bAV eB (some e)]
def partsC (eB : Nat) (es : List (List UInt8)) : List AV := es.flatMap (partC eB)
@[simp] theorem partsC_length (eB : Nat) : ∀ es : List (List UInt8), (partsC eB es).length = es.length * 4
  | [] => rfl
  | e :: es => by
    have := partsC_length eB es
    simp only [partsC] at this
    simp only [partsC, List.flatMap_cons, List.length_append, List.length_cons, this]
    simp [partC]; omega
theorem partsC_cons (eB : Nat) (e : List UInt8) (es : List (List UInt8)) : partsC eB (e :: es) = .str (nmE e) :: .int .i64 (kv e).1 :: bAV eB (some (kv e).2) :: bAV eB (some e) :: partsC eB es := rfl
theorem partsC_append (eB : Nat) (a b : List (List UInt8)) : partsC eB (a ++ b) = partsC eB a ++ partsC eB b := by simp [partsC]
@[simp] theorem old_partsC (b eB : Nat) : ∀ es : List (List UInt8), oldL b (partsC eB es) = true
  | [] => rfl
  | e :: es => by rw [partsC_cons]; simp [old_partsC b eB es]
theorem eOk_kv {l : List UInt8} {m : Nat} (h : eGet l = some m) : eOk (l.take m) = (vGet (kv (l.take m)).1 (kv (l.take m)).2).isSome := by
  obtain ⟨t, r, i, n, rfl, hn, hv, rfl, hle, hp⟩ := eParts_take h
  unfold eOk kv
  rw [hp]
end Go.Proofs.YtcodfehgnjplcaaGreatDoor.Abs
