/- What bytes say of values and elements, whatever they are: lengths, ends, elements one behind the other. -/
import Derived.Test.YtcodfehgnjplcaaGreatDoorTR6
namespace Go.Proofs.YtcodfehgnjplcaaGreatDoor.Abs
set_option linter.all false

def num32 : List UInt8 → Int
  | a :: b :: c :: d :: _ => rd32 a b c d
  | _ => 0
theorem num32_short {l : List UInt8} (h : l.length < 4) : num32 l = 0 := by
  match l, h with
  | [], _ => rfl
  | [_], _ => rfl
  | [_, _], _ => rfl
  | [_, _, _], _ => rfl
theorem num32_range (l : List UInt8) : -2147483648 ≤ num32 l ∧ num32 l < 2147483648 := by
  unfold num32
  split
  · unfold rd32; rw [i32_wrap]; split <;> omega
  · omega
theorem num32_take {l : List UInt8} {n : Nat} (h : 4 ≤ n) : num32 (l.take n) = num32 l := by
  match l, n, h with
  | [], n, _ => simp
  | [_], n + 4, _ => rfl
  | [_, _], n + 4, _ => rfl
  | [_, _, _], n + 4, _ => rfl
  | _ :: _ :: _ :: _ :: _, n + 4, _ => rfl
theorem num32_app {l r : List UInt8} (h : 4 ≤ l.length) : num32 (l ++ r) = num32 l := by
  match l, h with
  | _ :: _ :: _ :: _ :: _, _ => rfl

def nul : List UInt8 → Option Nat
  | [] => none
  | c :: r => if c = 0 then some 0 else (nul r).map (· + 1)
theorem nul_lt : ∀ {l : List UInt8} {i : Nat}, nul l = some i → i < l.length ∧ l[i]? = some 0 ∧ ∀ j, j < i → ∃ c, l[j]? = some c ∧ c ≠ 0
  | [], i, h => by cases h
  | c :: r, i, h => by
    unfold nul at h
    split at h
    · rename_i hc; injection h with h; subst h; subst hc
      exact ⟨by simp, rfl, fun j hj => absurd hj (by omega)⟩
    · rename_i hc
      cases hn : nul r with
      | none => rw [hn] at h; cases h
      | some k =>
        rw [hn] at h; simp only [Option.map_some, Option.some.injEq] at h; subst h
        obtain ⟨h1, h2, h3⟩ := nul_lt hn
        refine ⟨by simp; omega, by simpa using h2, fun j hj => ?_⟩
        cases j with
        | zero => exact ⟨c, rfl, hc⟩
        | succ j => obtain ⟨d, e1, e2⟩ := h3 j (by omega); exact ⟨d, by simpa using e1, e2⟩
theorem indexByte_nul : ∀ l : List UInt8, Go.Lib.indexByte l 0 = (match nul l with | some i => (i : Int) | none => -1)
  | [] => rfl
  | c :: r => by
    have ih := indexByte_nul r
    unfold nul
    by_cases hc : c = 0
    · simp [Go.Lib.indexByte, hc]
    · rw [if_neg hc]
      cases hn : nul r with
      | none => rw [hn] at ih; simp only at ih; simp [Go.Lib.indexByte, hc, ih]
      | some k =>
        rw [hn] at ih; simp only at ih
        have : ¬ ((k : Int) = -1) := by omega
        simp [Go.Lib.indexByte, hc, ih, this]
theorem nul_plain : ∀ {l r : List UInt8}, plainL l = true → nul (l ++ 0 :: r) = some l.length
  | [], r, _ => by simp [nul]
  | c :: l, r, h => by
    unfold plainL at h
    split at h
    · cases h
    · rename_i hc
      simp [nul, hc, nul_plain (r := r) h]
theorem nul_take {l : List UInt8} {i n : Nat} (h : nul l = some i) (hn : i < n) : nul (l.take n) = some i := by
  induction l generalizing i n with
  | nil => cases h
  | cons c r ih =>
    cases n with
    | zero => omega
    | succ n =>
      unfold nul at h
      rw [List.take_succ_cons]
      unfold nul
      split at h
      · rename_i hc; rw [if_pos hc]; exact h
      · rename_i hc
        rw [if_neg hc]
        cases hk : nul r with
        | none => rw [hk] at h; cases h
        | some k =>
          rw [hk] at h; simp only [Option.map_some, Option.some.injEq] at h; subst h
          rw [ih hk (by omega)]; rfl

def lenD (d : Int) (l : List UInt8) : Option Nat := if 4 ≤ l.length ∧ 0 ≤ num32 l ∧ num32 l + d < 2147483648 then some (num32 l + d).toNat else none
def rxLen (l : List UInt8) : Option Nat := (nul l).bind fun i => (nul (l.drop (i + 1))).map fun j => i + 1 + j + 1
def vLen (k : Int) (l : List UInt8) : Option Nat :=
  if k = 3 ∨ k = 4 ∨ k = 15 then lenD 0 l else if k = 5 then lenD 5 l else if k = 12 then lenD 16 l else if k = 13 ∨ k = 2 ∨ k = 14 then lenD 4 l
  else if k = 8 then some 1 else if k = 9 ∨ k = 1 ∨ k = 18 ∨ k = 17 then some 8 else if k = 19 then some 16 else if k = 16 then some 4
  else if k = 127 ∨ k = 255 ∨ k = 10 ∨ k = 6 then some 0 else if k = 7 then some 12 else if k = 11 then rxLen l else none
theorem rxLen_le {l : List UInt8} {n : Nat} (h : rxLen l = some n) : n ≤ l.length := by
  simp only [rxLen, Option.bind_eq_some_iff, Option.map_eq_some_iff] at h
  obtain ⟨i, h1, j, h2, rfl⟩ := h
  have a := (nul_lt h1).1
  have b := (nul_lt h2).1
  rw [List.length_drop] at b; omega
theorem lenD_lt {d : Int} {l : List UInt8} {n : Nat} (h : lenD d l = some n) : (n : Int) < 2147483648 ∨ d < 0 := by
  unfold lenD at h
  split at h
  · rename_i hc; injection h with h; subst h; omega
  · cases h
theorem vLen_lt {k : Int} {l : List UInt8} {n : Nat} (hl : l.length < 2147483648) (h : vLen k l = some n) : n < 2147483648 := by
  unfold vLen at h
  repeat' split at h
  all_goals first
    | (have := lenD_lt h; omega)
    | (injection h with h; omega)
    | (have := rxLen_le h; omega)
    | cases h
def vGet (k : Int) (l : List UInt8) : Option Nat := (vLen k l).bind fun n => if n ≤ l.length then some n else none
def eGet : List UInt8 → Option Nat
  | [] => none
  | t :: r => (nul r).bind fun i => (vLen t.toNat (r.drop (i + 1))).bind fun n => if i + 2 + n ≤ r.length + 1 then some (i + 2 + n) else none
theorem eGet_le {l : List UInt8} {m : Nat} (h : eGet l = some m) : 2 ≤ m ∧ m ≤ l.length := by
  cases l with
  | nil => cases h
  | cons t r =>
    simp only [eGet, Option.bind_eq_some_iff] at h
    obtain ⟨i, _, n, _, h⟩ := h
    split at h
    · injection h with h; subst h; simp; omega
    · cases h

def eParts : List UInt8 → Option (UInt8 × List UInt8 × List UInt8)
  | [] => none
  | t :: r => (nul r).map fun i => (t, r.take i, r.drop (i + 1))
theorem eParts_take {l : List UInt8} {m : Nat} (h : eGet l = some m) : ∃ t r i n, l = t :: r ∧ nul r = some i ∧ vLen t.toNat (r.drop (i + 1)) = some n ∧ m = i + 2 + n ∧ i + 1 + n ≤ r.length ∧
    eParts (l.take m) = some (t, r.take i, (r.drop (i + 1)).take n) := by
  cases l with
  | nil => cases h
  | cons t r =>
    simp only [eGet, Option.bind_eq_some_iff] at h
    obtain ⟨i, hi, n, hn, h⟩ := h
    split at h
    · rename_i hle
      injection h with h; subst h
      refine ⟨t, r, i, n, rfl, hi, hn, rfl, by omega, ?_⟩
      rw [show i + 2 + n = (i + 1 + n) + 1 by omega, List.take_succ_cons]
      show (nul (r.take (i + 1 + n))).map _ = _
      rw [nul_take hi (by omega)]
      simp only [Option.map_some, List.take_take, List.drop_take]
      rw [show min i (i + 1 + n) = i by omega, show i + 1 + n - (i + 1) = n by omega]
    · cases h
theorem lenD_take {d : Int} {l : List UInt8} {n : Nat} (hd : 0 ≤ d) (h : lenD d l = some n) (h4 : 4 ≤ n) : lenD d (l.take n) = some n := by
  unfold lenD at h ⊢
  split at h
  · rename_i hc
    rw [num32_take h4, if_pos ⟨by rw [List.length_take]; omega, hc.2⟩]
    exact h
  · cases h
theorem rxLen_take {l : List UInt8} {n : Nat} (h : rxLen l = some n) : rxLen (l.take n) = some n := by
  have hle := rxLen_le h
  simp only [rxLen, Option.bind_eq_some_iff, Option.map_eq_some_iff] at h
  obtain ⟨i, h1, j, h2, rfl⟩ := h
  unfold rxLen
  rw [nul_take h1 (by omega)]
  simp only [Option.bind_some, List.drop_take]
  rw [nul_take h2 (by omega)]
  rfl
theorem vLen_take {k : Int} {l : List UInt8} {n : Nat} (h : vLen k l = some n) (h4 : k = 3 ∨ k = 4 ∨ k = 15 → 4 ≤ n) : vLen k (l.take n) = some n := by
  have ge : ∀ d : Int, 4 ≤ d → lenD d l = some n → 4 ≤ n := fun d hd h => by
    unfold lenD at h
    split at h
    · injection h with h; omega
    · cases h
  unfold vLen at h ⊢
  split at h
  · rename_i hc; rw [if_pos hc]; exact lenD_take (by omega) h (h4 hc)
  · rename_i h1; rw [if_neg h1]
    split at h
    · rename_i hc; rw [if_pos hc]; exact lenD_take (by omega) h (ge _ (by omega) h)
    · rename_i h2; rw [if_neg h2]
      split at h
      · rename_i hc; rw [if_pos hc]; exact lenD_take (by omega) h (ge _ (by omega) h)
      · rename_i h3; rw [if_neg h3]
        split at h
        · rename_i hc; rw [if_pos hc]; exact lenD_take (by omega) h (ge _ (by omega) h)
        · rename_i h5; rw [if_neg h5]
          repeat' split at h
          all_goals simp_all
          exact rxLen_take h
theorem vGet_cut {k : Int} {l : List UInt8} {n q : Nat} (h : vLen k l = some n) (hn : n ≤ l.length) (hg : vGet k (l.take n) = some q) : q = n := by
  by_cases hc : k = 3 ∨ k = 4 ∨ k = 15
  · by_cases h4 : 4 ≤ n
    · rw [vGet, vLen_take h (fun _ => h4)] at hg
      simp only [Option.bind_some] at hg
      split at hg
      · injection hg with hg; exact hg.symm
      · cases hg
    · exfalso
      have : vLen k (l.take n) = none := by
        unfold vLen; rw [if_pos hc]; unfold lenD
        rw [if_neg (fun hh => h4 (by have := hh.1; rw [List.length_take] at this; omega))]
      rw [vGet, this] at hg; cases hg
  · rw [vGet, vLen_take h (fun hh => absurd hh hc)] at hg
    simp only [Option.bind_some] at hg
    split at hg
    · injection hg with hg; exact hg.symm
    · cases hg
def eOk (l : List UInt8) : Bool :=
  match eParts l with
  | some (k, _, d) => (vGet k.toNat d).isSome
  | none => false
def kv (e : List UInt8) : Int × List UInt8 :=
  match eParts e with
  | some (t, _, d) => ((t.toNat : Int), d)
  | none => (0, [])
def kvC (eB : Nat) (e : List UInt8) : List AV := [.int .u8 (kv e).1, bAV eB (some (kv e).2)]
def valsC (eB : Nat) (es : List (List UInt8)) : List AV := es.flatMap (kvC eB)
@[simp] theorem valsC_length (eB : Nat) : ∀ es : List (List UInt8), (valsC eB es).length = es.length * 2
  | [] => rfl
  | e :: es => by simp only [valsC, List.flatMap_cons, List.length_append, List.length_cons]; have := valsC_length eB es; simp only [valsC] at this; rw [this]; simp [kvC]; omega
theorem valsC_cons (eB : Nat) (e : List UInt8) (es : List (List UInt8)) : valsC eB (e :: es) = .int .u8 (kv e).1 :: bAV eB (some (kv e).2) :: valsC eB es := rfl
theorem valsC_append (eB : Nat) (a b : List (List UInt8)) : valsC eB (a ++ b) = valsC eB a ++ valsC eB b := by simp [valsC]
@[simp] theorem old_valsC (b eB : Nat) : ∀ es : List (List UInt8), oldL b (valsC eB es) = true
  | [] => rfl
  | e :: es => by rw [valsC_cons]; simp [old_valsC b eB es]
theorem kv_range (e : List UInt8) : 0 ≤ (kv e).1 ∧ (kv e).1 < 256 := by
  unfold kv
  split
  · rename_i t _ _ _; have := t.toNat_lt; simp only; omega
  · simp only; omega
def elemsR : Nat → Int → List UInt8 → List (List UInt8) × Bool
  | 0, _, _ => ([], true)
  | f + 1, n, l => if n ≤ 1 then ([], true) else match eGet l with
    | none => ([], false)
    | some m => if eOk (l.take m) then (l.take m :: (elemsR f (n - m) (l.drop m)).1, (elemsR f (n - m) (l.drop m)).2) else ([], false)
def eDat (e : List UInt8) : Option (List UInt8) := match eParts e with | some (_, _, d) => some d | none => none
def elemsE (inv : List UInt8 → Option (List UInt8)) (o : Option (List UInt8)) : Nat → Int → List UInt8 → Option (List UInt8) × Option (List UInt8)
  | 0, _, _ => (none, none)
  | f + 1, n, l => if n ≤ 1 then (none, none) else match eGet l with
    | none => (o, some l)
    | some m => if eOk (l.take m) then elemsE inv o f (n - m) (l.drop m) else (inv (l.take m), inv (l.take m))
def elemsT : Nat → Int → List UInt8 → List UInt8
  | 0, _, l => l
  | f + 1, n, l => if n ≤ 1 then l else match eGet l with
    | none => l
    | some m => if eOk (l.take m) then elemsT f (n - m) (l.drop m) else l
def elemAt : Nat → Int → List UInt8 → Nat → Nat × List UInt8
  | 0, _, _, _ => (2, [])
  | f + 1, n, l, k => if n ≤ 1 then (2, []) else match eGet l with
    | none => (1, l)
    | some m => (match k with
      | 0 => (0, l.take m)
      | k + 1 => elemAt f (n - m) (l.drop m) k)

def oB (l : List UInt8) : Option (List UInt8) := (BS.mk l).opt
@[simp] theorem bl_oB (l : List UInt8) : bl (oB l) = l := by simp [oB]
theorem oB_some {l : List UInt8} (h : l ≠ []) : oB l = some l := by cases l with | nil => exact absurd rfl h | cons a r => rfl
def rawsC (eB : Nat) (es : List (List UInt8)) : List AV := es.flatMap fun e => [.int .i64 (kv e).1, bAV eB (oB (kv e).2)]
theorem rawsC_cons (eB : Nat) (e : List UInt8) (es : List (List UInt8)) : rawsC eB (e :: es) = [.int .i64 (kv e).1, bAV eB (oB (kv e).2)] ++ rawsC eB es := rfl
theorem rawsC_append (eB : Nat) (a b : List (List UInt8)) : rawsC eB (a ++ b) = rawsC eB a ++ rawsC eB b := by simp [rawsC]
@[simp] theorem rawsC_length (eB : Nat) : ∀ es : List (List UInt8), (rawsC eB es).length = es.length * 2
  | [] => rfl
  | e :: es => by rw [rawsC_cons, List.length_append, rawsC_length eB es]; simp; omega
theorem elemsR_ne : ∀ (f : Nat) (n : Int) (l : List UInt8), ∀ e ∈ (elemsR f n l).1, e ≠ []
  | 0, n, l, e, h => by simp [elemsR] at h
  | f + 1, n, l, e, h => by
    simp only [elemsR] at h
    split at h
    · simp at h
    · split at h
      · simp at h
      · rename_i m hm
        split at h
        · simp only [List.mem_cons] at h
          rcases h with rfl | h
          · have := eGet_le hm
            intro he
            have : (l.take m).length = 0 := by rw [he]; rfl
            rw [List.length_take] at this; omega
          · exact elemsR_ne f _ _ e h
        · simp at h
theorem elemsR_len : ∀ (f : Nat) (n : Int) (l : List UInt8), (elemsR f n l).1.flatten.length ≤ l.length ∧ (elemsR f n l).1.length ≤ l.length
  | 0, n, l => by simp [elemsR]
  | f + 1, n, l => by
    simp only [elemsR]
    split
    · simp
    · split
      · simp
      · rename_i m hm
        split
        · have := eGet_le hm
          have ih := elemsR_len f (n - m) (l.drop m)
          rw [List.length_drop] at ih
          simp only [List.flatten_cons, List.length_append, List.length_take, List.length_cons]
          omega
        · simp
theorem kv_len (X : List UInt8) : (kv X).2.length ≤ X.length := by
  unfold kv
  cases X with
  | nil => simp [eParts]
  | cons t r =>
    simp only [eParts]
    cases nul r with
    | none => simp
    | some i => simp; omega
theorem mem_flat_len {e : List UInt8} : ∀ {es : List (List UInt8)}, e ∈ es → e.length ≤ es.flatten.length
  | x :: es, h => by
    simp only [List.mem_cons] at h
    simp only [List.flatten_cons, List.length_append]
    rcases h with rfl | h
    · omega
    · have := mem_flat_len h; omega

end Go.Proofs.YtcodfehgnjplcaaGreatDoor.Abs
