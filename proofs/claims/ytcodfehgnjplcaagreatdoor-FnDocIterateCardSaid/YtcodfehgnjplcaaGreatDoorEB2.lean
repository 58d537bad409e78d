/- TR7, EB1, EB2 -/
import Derived.Test.YtcodfehgnjplcaaGreatDoorTR6
import Derived.Test.YtcodfehgnjplcaaGreatDoorERdLen
/- What bytes say of values and elements, whatever they are: lengths, ends, elements one behind the other. -/
namespace Go.Proofs.YtcodfehgnjplcaaGreatDoor.Abs
set_option linter.all false

def num32 : List UInt8 → Int
  | a :: b :: c :: d :: _ => rd32 a b c d
  | _ => 0
theorem num32_short {l : List UInt8} (h : l.length < 4) : num32 l = 0 := by
  match l, h with
  | [], _ => rfl
  | [_], _ => rfl
  | [_, _], _ => rfl
  | [_, _, _], _ => rfl
theorem num32_range (l : List UInt8) : -2147483648 ≤ num32 l ∧ num32 l < 2147483648 := by
  unfold num32
  split
  · unfold rd32; rw [i32_wrap]; split <;> omega
  · omega
theorem num32_take {l : List UInt8} {n : Nat} (h : 4 ≤ n) : num32 (l.take n) = num32 l := by
  match l, n, h with
  | [], n, _ => simp
  | [_], n + 4, _ => rfl
  | [_, _], n + 4, _ => rfl
  | [_, _, _], n + 4, _ => rfl
  | _ :: _ :: _ :: _ :: _, n + 4, _ => rfl
theorem num32_app {l r : List UInt8} (h : 4 ≤ l.length) : num32 (l ++ r) = num32 l := by
  match l, h with
  | _ :: _ :: _ :: _ :: _, _ => rfl

def nul : List UInt8 → Option Nat
  | [] => none
  | c :: r => if c = 0 then some 0 else (nul r).map (· + 1)
theorem nul_lt : ∀ {l : List UInt8} {i : Nat}, nul l = some i → i < l.length ∧ l[i]? = some 0 ∧ ∀ j, j < i → ∃ c, l[j]? = some c ∧ c ≠ 0
  | [], i, h => by cases h
  | c :: r, i, h => by
    unfold nul at h
    split at h
    · rename_i hc; injection h with h; subst h; subst hc
      exact ⟨by simp, rfl, fun j hj => absurd hj (by omega)⟩
    · rename_i hc
      cases hn : nul r with
      | none => rw [hn] at h; cases h
      | some k =>
        rw [hn] at h; simp only [Option.map_some, Option.some.injEq] at h; subst h
        obtain ⟨h1, h2, h3⟩ := nul_lt hn
        refine ⟨by simp; omega, by simpa using h2, fun j hj => ?_⟩
        cases j with
        | zero => exact ⟨c, rfl, hc⟩
        | succ j => obtain ⟨d, e1, e2⟩ := h3 j (by omega); exact ⟨d, by simpa using e1, e2⟩
theorem indexByte_nul : ∀ l : List UInt8, Go.Lib.indexByte l 0 = (match nul l with | some i => (i : Int) | none => -1)
  | [] => rfl
  | c :: r => by
    have ih := indexByte_nul r
    unfold nul
    by_cases hc : c = 0
    · simp [Go.Lib.indexByte, hc]
    · rw [if_neg hc]
      cases hn : nul r with
      | none => rw [hn] at ih; simp only at ih; simp [Go.Lib.indexByte, hc, ih]
      | some k =>
        rw [hn] at ih; simp only at ih
        have : ¬ ((k : Int) = -1) := by omega
        simp [Go.Lib.indexByte, hc, ih, this]
theorem nul_plain : ∀ {l r : List UInt8}, plainL l = true → nul (l ++ 0 :: r) = some l.length
  | [], r, _ => by simp [nul]
  | c :: l, r, h => by
    unfold plainL at h
    split at h
    · cases h
    · rename_i hc
      simp [nul, hc, nul_plain (r := r) h]
theorem nul_take {l : List UInt8} {i n : Nat} (h : nul l = some i) (hn : i < n) : nul (l.take n) = some i := by
  induction l generalizing i n with
  | nil => cases h
  | cons c r ih =>
    cases n with
    | zero => omega
    | succ n =>
      unfold nul at h
      rw [List.take_succ_cons]
      unfold nul
      split at h
      · rename_i hc; rw [if_pos hc]; exact h
      · rename_i hc
        rw [if_neg hc]
        cases hk : nul r with
        | none => rw [hk] at h; cases h
        | some k =>
          rw [hk] at h; simp only [Option.map_some, Option.some.injEq] at h; subst h
          rw [ih hk (by omega)]; rfl

def lenD (d : Int) (l : List UInt8) : Option Nat := if 4 ≤ l.length ∧ 0 ≤ num32 l ∧ num32 l + d < 2147483648 then some (num32 l + d).toNat else none
def rxLen (l : List UInt8) : Option Nat := (nul l).bind fun i => (nul (l.drop (i + 1))).map fun j => i + 1 + j + 1
def vLen (k : Int) (l : List UInt8) : Option Nat :=
  if k = 3 ∨ k = 4 ∨ k = 15 then lenD 0 l else if k = 5 then lenD 5 l else if k = 12 then lenD 16 l else if k = 13 ∨ k = 2 ∨ k = 14 then lenD 4 l
  else if k = 8 then some 1 else if k = 9 ∨ k = 1 ∨ k = 18 ∨ k = 17 then some 8 else if k = 19 then some 16 else if k = 16 then some 4
  else if k = 127 ∨ k = 255 ∨ k = 10 ∨ k = 6 then some 0 else if k = 7 then some 12 else if k = 11 then rxLen l else none
theorem rxLen_le {l : List UInt8} {n : Nat} (h : rxLen l = some n) : n ≤ l.length := by
  simp only [rxLen, Option.bind_eq_some_iff, Option.map_eq_some_iff] at h
  obtain ⟨i, h1, j, h2, rfl⟩ := h
  have a := (nul_lt h1).1
  have b := (nul_lt h2).1
  rw [List.length_drop] at b; omega
theorem lenD_lt {d : Int} {l : List UInt8} {n : Nat} (h : lenD d l = some n) : (n : Int) < 2147483648 ∨ d < 0 := by
  unfold lenD at h
  split at h
  · rename_i hc; injection h with h; subst h; omega
  · cases h
theorem vLen_lt {k : Int} {l : List UInt8} {n : Nat} (hl : l.length < 2147483648) (h : vLen k l = some n) : n < 2147483648 := by
  unfold vLen at h
  repeat' split at h
  all_goals first
    | (have := lenD_lt h; omega)
    | (injection h with h; omega)
    | (have := rxLen_le h; omega)
    | cases h
def vGet (k : Int) (l : List UInt8) : Option Nat := (vLen k l).bind fun n => if n ≤ l.length then some n else none
def eGet : List UInt8 → Option Nat
  | [] => none
  | t :: r => (nul r).bind fun i => (vLen t.toNat (r.drop (i + 1))).bind fun n => if i + 2 + n ≤ r.length + 1 then some (i + 2 + n) else none
theorem eGet_le {l : List UInt8} {m : Nat} (h : eGet l = some m) : 2 ≤ m ∧ m ≤ l.length := by
  cases l with
  | nil => cases h
  | cons t r =>
    simp only [eGet, Option.bind_eq_some_iff] at h
    obtain ⟨i, _, n, _, h⟩ := h
    split at h
    · injection h with h; subst h; simp; omega
    · cases h

def eParts : List UInt8 → Option (UInt8 × List UInt8 × List UInt8)
  | [] => none
  | t :: r => (nul r).map fun i => (t, r.take i, r.drop (i + 1))
theorem eParts_take {l : List UInt8} {m : Nat} (h : eGet l = some m) : ∃ t r i n, l = t :: r ∧ nul r = some i ∧ vLen t.toNat (r.drop (i + 1)) = some n ∧ m = i + 2 + n ∧ i + 1 + n ≤ r.length ∧
    eParts (l.take m) = some (t, r.take i, (r.drop (i + 1)).take n) := by
  cases l with
  | nil => cases h
  | cons t r =>
    simp only [eGet, Option.bind_eq_some_iff] at h
    obtain ⟨i, hi, n, hn, h⟩ := h
    split at h
    · rename_i hle
      injection h with h; subst h
      refine ⟨t, r, i, n, rfl, hi, hn, rfl, by omega, ?_⟩
      rw [show i + 2 + n = (i + 1 + n) + 1 by omega, List.take_succ_cons]
      show (nul (r.take (i + 1 + n))).map _ = _
      rw [nul_take hi (by omega)]
      simp only [Option.map_some, List.take_take, List.drop_take]
      rw [show min i (i + 1 + n) = i by omega, show i + 1 + n - (i + 1) = n by omega]
    · cases h
theorem lenD_take {d : Int} {l : List UInt8} {n : Nat} (hd : 0 ≤ d) (h : lenD d l = some n) (h4 : 4 ≤ n) : lenD d (l.take n) = some n := by
  unfold lenD at h ⊢
  split at h
  · rename_i hc
    rw [num32_take h4, if_pos ⟨by rw [List.length_take]; omega, hc.2⟩]
    exact h
  · cases h
theorem rxLen_take {l : List UInt8} {n : Nat} (h : rxLen l = some n) : rxLen (l.take n) = some n := by
  have hle := rxLen_le h
  simp only [rxLen, Option.bind_eq_some_iff, Option.map_eq_some_iff] at h
  obtain ⟨i, h1, j, h2, rfl⟩ := h
  unfold rxLen
  rw [nul_take h1 (by omega)]
  simp only [Option.bind_some, List.drop_take]
  rw [nul_take h2 (by omega)]
  rfl
theorem vLen_take {k : Int} {l : List UInt8} {n : Nat} (h : vLen k l = some n) (h4 : k = 3 ∨ k = 4 ∨ k = 15 → 4 ≤ n) : vLen k (l.take n) = some n := by
  have ge : ∀ d : Int, 4 ≤ d → lenD d l = some n → 4 ≤ n := fun d hd h => by
    unfold lenD at h
    split at h
    · injection h with h; omega
    · cases h
  unfold vLen at h ⊢
  split at h
  · rename_i hc; rw [if_pos hc]; exact lenD_take (by omega) h (h4 hc)
  · rename_i h1; rw [if_neg h1]
    split at h
    · rename_i hc; rw [if_pos hc]; exact lenD_take (by omega) h (ge _ (by omega) h)
    · rename_i h2; rw [if_neg h2]
      split at h
      · rename_i hc; rw [if_pos hc]; exact lenD_take (by omega) h (ge _ (by omega) h)
      · rename_i h3; rw [if_neg h3]
        split at h
        · rename_i hc; rw [if_pos hc]; exact lenD_take (by omega) h (ge _ (by omega) h)
        · rename_i h5; rw [if_neg h5]
          repeat' split at h
          all_goals simp_all
          exact rxLen_take h
theorem vGet_cut {k : Int} {l : List UInt8} {n q : Nat} (h : vLen k l = some n) (hn : n ≤ l.length) (hg : vGet k (l.take n) = some q) : q = n := by
  by_cases hc : k = 3 ∨ k = 4 ∨ k = 15
  · by_cases h4 : 4 ≤ n
    · rw [vGet, vLen_take h (fun _ => h4)] at hg
      simp only [Option.bind_some] at hg
      split at hg
      · injection hg with hg; exact hg.symm
      · cases hg
    · exfalso
      have : vLen k (l.take n) = none := by
        unfold vLen; rw [if_pos hc]; unfold lenD
        rw [if_neg (fun hh => h4 (by have := hh.1; rw [List.length_take] at this; omega))]
      rw [vGet, this] at hg; cases hg
  · rw [vGet, vLen_take h (fun hh => absurd hh hc)] at hg
    simp only [Option.bind_some] at hg
    split at hg
    · injection hg with hg; exact hg.symm
    · cases hg
def eOk (l : List UInt8) : Bool :=
  match eParts l with
  | some (k, _, d) => (vGet k.toNat d).isSome
  | none => false
def kv (e : List UInt8) : Int × List UInt8 :=
  match eParts e with
  | some (t, _, d) => ((t.toNat : Int), d)
  | none => (0, [])
def kvC (eB : Nat) (e : List UInt8) : List AV := [.int .u8 (kv e).1, bAV eB (some (kv e).2)]
def valsC (eB : Nat) (es : List (List UInt8)) : List AV := es.flatMap (kvC eB)
@[simp] theorem valsC_length (eB : Nat) : ∀ es : List (List UInt8), (valsC eB es).length = es.length * 2
  | [] => rfl
  | e :: es => by simp only [valsC, List.flatMap_cons, List.length_append, List.length_cons]; have := valsC_length eB es; simp only [valsC] at this; rw [this]; simp [kvC]; omega
theorem valsC_cons (eB : Nat) (e : List UInt8) (es : List (List UInt8)) : valsC eB (e :: es) = .int .u8 (kv e).1 :: bAV eB (some (kv e).2) :: valsC eB es := rfl
theorem valsC_append (eB : Nat) (a b : List (List UInt8)) : valsC eB (a ++ b) = valsC eB a ++ valsC eB b := by simp [valsC]
@[simp] theorem old_valsC (b eB : Nat) : ∀ es : List (List UInt8), oldL b (valsC eB es) = true
  | [] => rfl
  | e :: es => by rw [valsC_cons]; simp [old_valsC b eB es]
theorem kv_range (e : List UInt8) : 0 ≤ (kv e).1 ∧ (kv e).1 < 256 := by
  unfold kv
  split
  · rename_i t _ _ _; have := t.toNat_lt; simp only; omega
  · simp only; omega
def elemsR : Nat → Int → List UInt8 → List (List UInt8) × Bool
  | 0, _, _ => ([], true)
  | f + 1, n, l => if n ≤ 1 then ([], true) else match eGet l with
    | none => ([], false)
    | some m => if eOk (l.take m) then (l.take m :: (elemsR f (n - m) (l.drop m)).1, (elemsR f (n - m) (l.drop m)).2) else ([], false)
def eDat (e : List UInt8) : Option (List UInt8) := match eParts e with | some (_, _, d) => some d | none => none
def elemsE (inv : List UInt8 → Option (List UInt8)) (o : Option (List UInt8)) : Nat → Int → List UInt8 → Option (List UInt8) × Option (List UInt8)
  | 0, _, _ => (none, none)
  | f + 1, n, l => if n ≤ 1 then (none, none) else match eGet l with
    | none => (o, some l)
    | some m => if eOk (l.take m) then elemsE inv o f (n - m) (l.drop m) else (inv (l.take m), inv (l.take m))
def elemsT : Nat → Int → List UInt8 → List UInt8
  | 0, _, l => l
  | f + 1, n, l => if n ≤ 1 then l else match eGet l with
    | none => l
    | some m => if eOk (l.take m) then elemsT f (n - m) (l.drop m) else l
def elemAt : Nat → Int → List UInt8 → Nat → Nat × List UInt8
  | 0, _, _, _ => (2, [])
  | f + 1, n, l, k => if n ≤ 1 then (2, []) else match eGet l with
    | none => (1, l)
    | some m => (match k with
      | 0 => (0, l.take m)
      | k + 1 => elemAt f (n - m) (l.drop m) k)

def oB (l : List UInt8) : Option (List UInt8) := (BS.mk l).opt
@[simp] theorem bl_oB (l : List UInt8) : bl (oB l) = l := by simp [oB]
theorem oB_some {l : List UInt8} (h : l ≠ []) : oB l = some l := by cases l with | nil => exact absurd rfl h | cons a r => rfl
def rawsC (eB : Nat) (es : List (List UInt8)) : List AV := es.flatMap fun e => [.int .i64 (kv e).1, bAV eB (oB (kv e).2)]
theorem rawsC_cons (eB : Nat) (e : List UInt8) (es : List (List UInt8)) : rawsC eB (e :: es) = [.int .i64 (kv e).1, bAV eB (oB (kv e).2)] ++ rawsC eB es := rfl
theorem rawsC_append (eB : Nat) (a b : List (List UInt8)) : rawsC eB (a ++ b) = rawsC eB a ++ rawsC eB b := by simp [rawsC]
@[simp] theorem rawsC_length (eB : Nat) : ∀ es : List (List UInt8), (rawsC eB es).length = es.length * 2
  | [] => rfl
  | e :: es => by rw [rawsC_cons, List.length_append, rawsC_length eB es]; simp; omega
theorem elemsR_ne : ∀ (f : Nat) (n : Int) (l : List UInt8), ∀ e ∈ (elemsR f n l).1, e ≠ []
  | 0, n, l, e, h => by simp [elemsR] at h
  | f + 1, n, l, e, h => by
    simp only [elemsR] at h
    split at h
    · simp at h
    · split at h
      · simp at h
      · rename_i m hm
        split at h
        · simp only [List.mem_cons] at h
          rcases h with rfl | h
          · have := eGet_le hm
            intro he
            have : (l.take m).length = 0 := by rw [he]; rfl
            rw [List.length_take] at this; omega
          · exact elemsR_ne f _ _ e h
        · simp at h
theorem elemsR_len : ∀ (f : Nat) (n : Int) (l : List UInt8), (elemsR f n l).1.flatten.length ≤ l.length ∧ (elemsR f n l).1.length ≤ l.length
  | 0, n, l => by simp [elemsR]
  | f + 1, n, l => by
    simp only [elemsR]
    split
    · simp
    · split
      · simp
      · rename_i m hm
        split
        · have := eGet_le hm
          have ih := elemsR_len f (n - m) (l.drop m)
          rw [List.length_drop] at ih
          simp only [List.flatten_cons, List.length_append, List.length_take, List.length_cons]
          omega
        · simp
theorem kv_len (X : List UInt8) : (kv X).2.length ≤ X.length := by
  unfold kv
  cases X with
  | nil => simp [eParts]
  | cons t r =>
    simp only [eParts]
    cases nul r with
    | none => simp
    | some i => simp; omega
theorem mem_flat_len {e : List UInt8} : ∀ {es : List (List UInt8)}, e ∈ es → e.length ≤ es.flatten.length
  | x :: es, h => by
    simp only [List.mem_cons] at h
    simp only [List.flatten_cons, List.length_append]
    rcases h with rfl | h
    · omega
    · have := mem_flat_len h; omega

end Go.Proofs.YtcodfehgnjplcaaGreatDoor.Abs

/- Lengths, values and elements of any bytes whatever. -/
namespace Go.Proofs.YtcodfehgnjplcaaGreatDoor.Abs
set_option linter.all false
open Go.Proofs
set_option linter.unusedVariables false
set_option linter.unusedSimpArgs false
set_option maxRecDepth 100000
set_option maxHeartbeats 8000000

theorem i32_small {n : Int} (h0 : -2147483648 ≤ n) (h1 : n < 2147483648) : IntKind.i32.wrap n = n := by simp [IntKind.wrap, IntKind.signed, IntKind.bits]; omega
theorem ibV_b {h : H} {e : Nat} {o : Option (List UInt8)} {c : Int} : ibV h (bAV e o) (.int .u8 c) = some (.int .i64 (Go.Lib.indexByte (bl o) (UInt8.ofNat c.toNat))) := by
  have h1 : (bAV e o).isOwn = false := by cases o <;> rfl
  simp [ibV, h1]
theorem c_IndexByte (o : Option (List UInt8)) (c : Int) : ∀ hE : H, callω fns 220 [bAV 5 o, .int .u8 c] hE = some (.int .i64 (Go.Lib.indexByte (bl o) (UInt8.ofNat c.toNat)), hE) := by
  intro hE
  refine run220 (Nat.le_of_ble_eq_true rfl) ?_
  simp [ibV_b]
theorem c_IndexNul (o : Option (List UInt8)) : ∀ hE : H, callω fns 220 [bAV 5 o, .int .u8 0] hE = some (.int .i64 (match nul (bl o) with | some i => (i : Int) | none => -1), hE) := by
  have h := c_IndexByte o 0
  have z0 : UInt8.ofNat (0 : Int).toNat = 0 := rfl
  rw [z0, indexByte_nul] at h
  exact h
def rest4 : Option (List UInt8) → Option (List UInt8)
  | some (_ :: _ :: _ :: _ :: r) => some r
  | o => o
def okL (l : List UInt8) : Bool := decide (4 ≤ l.length) && decide (0 ≤ num32 l)
theorem c_RLen (o : Option (List UInt8)) : ∀ hE : H, callω fns 54 [bAV 5 o] hE = some (.tup [.int .i32 (num32 (bl o)), bAV 5 (rest4 o), .bool (okL (bl o))], hE) := by
  intro hE
  by_cases h : (bl o).length < 4
  · have e1 : rest4 o = o := by
      cases o with
      | none => rfl
      | some l =>
        match l, h with
        | [], _ => rfl
        | [_], _ => rfl
        | [_, _], _ => rfl
        | [_, _, _], _ => rfl
        | _ :: _ :: _ :: _ :: r, h => simp [bl] at h; omega
    have e2 : okL (bl o) = false := by unfold okL; have : ¬ 4 ≤ (bl o).length := by omega
                                       simp [this]
    rw [num32_short h, e1, e2]
    exact c_ReadLength_short o h hE
  · match o, h with
    | none, h => simp [bl] at h
    | some [], h => simp [bl] at h
    | some [_], h => simp [bl] at h
    | some [_, _], h => simp [bl] at h
    | some [_, _, _], h => simp [bl] at h
    | some (a :: b :: c :: d :: r), _ =>
      have := c_ReadLength a b c d r hE
      rw [this]
      have hlen : 4 ≤ (bl (some (a :: b :: c :: d :: r))).length := by simp [bl]
      have e : okL (bl (some (a :: b :: c :: d :: r))) = decide (0 ≤ rd32 a b c d) := by unfold okL; simp only [hlen, decide_true, Bool.true_and]; rfl
      rw [e]; rfl
theorem okL_le {l : List UInt8} (h : okL l = true) : 4 ≤ l.length ∧ 0 ≤ num32 l := by
  unfold okL at h; simp only [Bool.and_eq_true, decide_eq_true_eq] at h; exact h
theorem lenD_ok {d : Int} {l : List UInt8} (hd : 0 ≤ d ∧ d ≤ 16) : ∃ n, n = IntKind.i32.wrap (num32 l + d) ∧ ((if n < 0 then false else okL l) = (lenD d l).isSome) ∧ ∀ m, lenD d l = some m → n = m ∧ m < 2147483648 := by
  refine ⟨_, rfl, ?_, fun m h => ?_⟩
  · obtain ⟨r1, r2⟩ := num32_range l
    unfold lenD
    by_cases hk : okL l = true
    · obtain ⟨h1, h2⟩ := okL_le hk
      rw [hk]
      by_cases h3 : num32 l + d < 2147483648
      · rw [i32_small (by omega) h3, if_neg (by omega), if_pos ⟨h1, h2, h3⟩]; rfl
      · have : IntKind.i32.wrap (num32 l + d) < 0 := by rw [i32_wrap]; split <;> omega
        rw [if_pos this, if_neg (fun h => h3 h.2.2)]; rfl
    · have : ¬ (4 ≤ l.length ∧ 0 ≤ num32 l ∧ num32 l + d < 2147483648) := fun h => hk (by unfold okL; simp [h.1, h.2.1])
      rw [if_neg this]
      simp only [Bool.not_eq_true] at hk
      rw [hk]; split <;> rfl
  · unfold lenD at h
    split at h
    · rename_i hc
      injection h with h; subst h
      rw [i32_small (by omega) hc.2.2]; omega
    · cases h
theorem kinds_cases (k : Int) : ((k = 3 ∨ k = 4 ∨ k = 15 ∨ k = 5 ∨ k = 12 ∨ k = 13 ∨ k = 2 ∨ k = 14) ∨ (k = 8 ∨ k = 9 ∨ k = 1 ∨ k = 18 ∨ k = 17 ∨ k = 19 ∨ k = 16 ∨ k = 127 ∨ k = 255 ∨ k = 10 ∨ k = 6 ∨ k = 7)) ∨ k = 11 ∨
    (k ≠ 1 ∧ k ≠ 2 ∧ k ≠ 3 ∧ k ≠ 4 ∧ k ≠ 5 ∧ k ≠ 6 ∧ k ≠ 7 ∧ k ≠ 8 ∧ k ≠ 9 ∧ k ≠ 10 ∧ k ≠ 11 ∧ k ≠ 12 ∧ k ≠ 13 ∧ k ≠ 14 ∧ k ≠ 15 ∧ k ≠ 16 ∧ k ≠ 17 ∧ k ≠ 18 ∧ k ≠ 19 ∧ k ≠ 127 ∧ k ≠ 255) := by omega

theorem c_vLen (k : Int) (o : Option (List UInt8)) (hl : (bl o).length < 2147483648) : ∃ n, (∀ hE : H, callω fns 164 [bAV 5 o, .int .u8 k] hE = some (.tup [.int .i32 n, .bool (vLen k (bl o)).isSome], hE)) ∧ ∀ m, vLen k (bl o) = some m → n = m ∧ m < 2147483648 := by
  have hR := c_RLen o
  have num : ∀ d : Int, (0 ≤ d ∧ d ≤ 16) → vLen k (bl o) = lenD d (bl o) → (k = 3 ∨ k = 4 ∨ k = 15) ∧ d = 0 ∨ k = 5 ∧ d = 5 ∨ k = 12 ∧ d = 16 ∨ (k = 13 ∨ k = 2 ∨ k = 14) ∧ d = 4 →
      ∃ n, (∀ hE : H, callω fns 164 [bAV 5 o, .int .u8 k] hE = some (.tup [.int .i32 n, .bool (vLen k (bl o)).isSome], hE)) ∧ ∀ m, vLen k (bl o) = some m → n = m ∧ m < 2147483648 := by
    intro d hd hv hk
    obtain ⟨n, hn, h1, h2⟩ := lenD_ok (l := bl o) hd
    obtain ⟨r1, r2⟩ := num32_range (bl o)
    rw [hv]
    refine ⟨n, fun hE => ?_, h2⟩
    rw [← h1]
    refine run164 (Nat.le_of_ble_eq_true rfl) ?_
    generalize okL (bl o) = b at *
    rcases hk with ⟨rfl | rfl | rfl, rfl⟩ | ⟨rfl, rfl⟩ | ⟨rfl, rfl⟩ | ⟨rfl | rfl | rfl, rfl⟩ <;>
      (by_cases h0 : n < 0) <;> first
        | (have e : n = num32 (bl o) := by rw [hn, Int.add_zero, i32_small r1 r2]
           rw [e] at h0 ⊢; simp [hR, h0, exV])
        | (simp [hR, ← hn, h0, exV])
  have fixed : ∀ z : Nat, vLen k (bl o) = some z → z < 100 → (∀ hE : H, callω fns 164 [bAV 5 o, .int .u8 k] hE = some (.tup [.int .i32 z, .bool true], hE)) →
      ∃ n, (∀ hE : H, callω fns 164 [bAV 5 o, .int .u8 k] hE = some (.tup [.int .i32 n, .bool (vLen k (bl o)).isSome], hE)) ∧ ∀ m, vLen k (bl o) = some m → n = m ∧ m < 2147483648 := by
    intro z hv hz h
    rw [hv]
    exact ⟨z, h, fun m hm => by injection hm with hm; subst hm; exact ⟨rfl, by omega⟩⟩
  rcases kinds_cases k with (hk | hk) | rfl | hk
  · rcases hk with rfl | rfl | rfl | rfl | rfl | rfl | rfl | rfl
    · exact num 0 (by omega) rfl (by omega)
    · exact num 0 (by omega) rfl (by omega)
    · exact num 0 (by omega) rfl (by omega)
    · exact num 5 (by omega) rfl (by omega)
    · exact num 16 (by omega) rfl (by omega)
    · exact num 4 (by omega) rfl (by omega)
    · exact num 4 (by omega) rfl (by omega)
    · exact num 4 (by omega) rfl (by omega)
  · rcases hk with rfl | rfl | rfl | rfl | rfl | rfl | rfl | rfl | rfl | rfl | rfl | rfl
    · exact fixed 1 rfl (by omega) fun hE => run164 (Nat.le_of_ble_eq_true rfl) (by simp)
    · exact fixed 8 rfl (by omega) fun hE => run164 (Nat.le_of_ble_eq_true rfl) (by simp)
    · exact fixed 8 rfl (by omega) fun hE => run164 (Nat.le_of_ble_eq_true rfl) (by simp)
    · exact fixed 8 rfl (by omega) fun hE => run164 (Nat.le_of_ble_eq_true rfl) (by simp)
    · exact fixed 8 rfl (by omega) fun hE => run164 (Nat.le_of_ble_eq_true rfl) (by simp)
    · exact fixed 16 rfl (by omega) fun hE => run164 (Nat.le_of_ble_eq_true rfl) (by simp)
    · exact fixed 4 rfl (by omega) fun hE => run164 (Nat.le_of_ble_eq_true rfl) (by simp)
    · exact fixed 0 rfl (by omega) fun hE => run164 (Nat.le_of_ble_eq_true rfl) (by simp)
    · exact fixed 0 rfl (by omega) fun hE => run164 (Nat.le_of_ble_eq_true rfl) (by simp)
    · exact fixed 0 rfl (by omega) fun hE => run164 (Nat.le_of_ble_eq_true rfl) (by simp)
    · exact fixed 0 rfl (by omega) fun hE => run164 (Nat.le_of_ble_eq_true rfl) (by simp)
    · exact fixed 12 rfl (by omega) fun hE => run164 (Nat.le_of_ble_eq_true rfl) (by simp)
  · have hv : vLen 11 (bl o) = rxLen (bl o) := rfl
    rw [hv]
    have hI := c_IndexNul o
    unfold rxLen
    cases h1 : nul (bl o) with
    | none =>
      rw [h1] at hI
      refine ⟨0, fun hE => ?_, fun m hm => by cases hm⟩
      refine run164 (Nat.le_of_ble_eq_true rfl) ?_
      simp [hI]
    | some i =>
      rw [h1] at hI
      have hil := (nul_lt h1).1
      cases o with
      | none => simp [bl] at hil
      | some l =>
        simp only [bl] at h1 hil hl hI ⊢
        have hJ := c_IndexNul (some (l.drop (i + 1)))
        simp only [bl] at hJ
        have hs : ∀ h : H, slSl h 1 (bAV 5 (some l)) (some ((i : Int) + 1)) (some (l.length : Int)) = some (bAV 5 (some (l.drop (i + 1)))) := fun h => by
          rw [sl_b (by omega) (by omega) (by omega)]
          have e1 : ((i : Int) + 1).toNat = i + 1 := by omega
          rw [e1, Int.toNat_natCast, List.take_of_length_le (by rw [List.length_drop]; omega)]
        have w1 : IntKind.i64.wrap ((i : Int) + 1) = i + 1 := wrap_i64 (by omega) (by omega)
        have gi : ¬ ((i : Int) < 0) := by omega
        cases h2 : nul (l.drop (i + 1)) with
        | none =>
          rw [h2] at hJ
          refine ⟨0, fun hE => ?_, fun m hm => by simp [h2] at hm⟩
          refine run164 (Nat.le_of_ble_eq_true rfl) ?_
          simp [hI, w1, gi, hs, hJ, bl, h2]
        | some j =>
          rw [h2] at hJ
          have hjl := (nul_lt h2).1
          rw [List.length_drop] at hjl
          have gj : ¬ ((j : Int) < 0) := by omega
          have w2 : IntKind.i64.wrap ((i : Int) + 1 + j) = i + 1 + j := wrap_i64 (by omega) (by omega)
          have w3 : IntKind.i64.wrap ((i : Int) + 1 + j + 1) = i + 1 + j + 1 := wrap_i64 (by omega) (by omega)
          have w4 : IntKind.i32.wrap ((i : Int) + 1 + j + 1) = i + 1 + j + 1 := i32_small (by omega) (by omega)
          have ge : ¬ ((i : Int) + 1 + j + 1 < 0) := by omega
          refine ⟨(i : Int) + 1 + j + 1, fun hE => ?_, fun m hm => by simp [h2] at hm; omega⟩
          refine run164 (Nat.le_of_ble_eq_true rfl) ?_
          simp [hI, w1, w2, w3, w4, gi, gj, ge, hs, hJ, bl, h2]
  · obtain ⟨h1, h2, h3, h4, h5, h6, h7, h8, h9, h10, h11, h12, h13, h14, h15, h16, h17, h18, h19, h20, h21⟩ := hk
    have hv : vLen k (bl o) = none := by
      unfold vLen; simp [h1, h2, h3, h4, h5, h6, h7, h8, h9, h10, h11, h12, h13, h14, h15, h16, h17, h18, h19, h20, h21]
    rw [hv]
    refine ⟨0, fun hE => ?_, fun m hm => by cases hm⟩
    refine run164 (Nat.le_of_ble_eq_true rfl) ?_
    simp [h1, h2, h3, h4, h5, h6, h7, h8, h9, h10, h11, h12, h13, h14, h15, h16, h17, h18, h19, h20, h21]
end Go.Proofs.YtcodfehgnjplcaaGreatDoor.Abs

/- Values and elements cut off any bytes. -/
namespace Go.Proofs.YtcodfehgnjplcaaGreatDoor.Abs
set_option linter.all false
open Go.Proofs
set_option linter.unusedVariables false
set_option linter.unusedSimpArgs false
set_option maxRecDepth 100000
set_option maxHeartbeats 8000000

theorem nulD_cons (c : UInt8) (r : List UInt8) : (nul (c :: r)).getD (c :: r).length = if c = 0 then 0 else (nul r).getD r.length + 1 := by
  show (if c = 0 then some 0 else (nul r).map (· + 1)).getD _ = _
  split
  · rfl
  · cases nul r <;> rfl
theorem l_ReadElement {t : UInt8} : ∀ (rest pre : List UInt8) (st : St), st.s 0 = bAV 5 (some (t :: (pre ++ rest))) → st.s 6 = .int .i64 (pre.length + 1 : Nat) → (pre ++ rest).length < 2147483648 → ∀ Q : Ex × St → Prop,
    (∀ st' : St, st'.h = st.h → st'.s 0 = st.s 0 → st'.s 5 = st.s 5 → st'.s 6 = .int .i64 (pre.length + 1 + (nul rest).getD rest.length : Nat) → Q (.exit 0, st')) → LoopR fns lc64_0 st Q
  | [], pre, st, h0, h6, hl, Q, hA => by
    refine loopω_run fns ?_
    simp only [List.append_nil] at h0 hl
    have hlen : (bl (some (t :: pre))).length = pre.length + 1 := by simp [bl]
    have g : ¬ ((pre.length : Int) + 1 < (pre.length + 1 : Nat)) := by omega
    have g2 : ¬ ((pre.length : Int) + 1 < (pre.length : Int) + 1) := by omega
    simp only [Int.natCast_add, Int.natCast_one] at h6
    simp [h0, h6, bl, g2, g]
    refine hA _ ?_ ?_ ?_ ?_ <;> simp [h0, h6, bl, nul]
  | c :: rest, pre, st, h0, h6, hl, Q, hA => by
    refine loopω_run fns ?_
    have hlt : pre.length + 1 < (t :: (pre ++ c :: rest)).length := by simp
    have g : ((pre.length : Int) + 1 < (pre.length : Int) + ((rest.length : Int) + 1) + 1) := by omega
    have hget : (t :: (pre ++ c :: rest))[pre.length + 1] = c := by simp
    have hix := bAV_at (e := 5) hlt
    rw [hget] at hix
    simp only [Int.natCast_add, Int.natCast_one] at h6 hix
    by_cases hc : c = 0
    · have hc' : c.toNat = 0 := by rw [hc]; rfl
      simp [h0, h6, bl, g, hix, hc']
      refine hA _ ?_ ?_ ?_ ?_ <;> simp [h0, h6, nul, hc]
    · have hc' : ¬ c.toNat = 0 := fun e => hc (UInt8.toNat_inj.1 e)
      have w : IntKind.i64.wrap ((pre.length : Int) + 1 + 1) = pre.length + 1 + 1 := wrap_i64 (by omega) (by simp at hl; omega)
      simp [h0, h6, bl, g, hix, hc', w]
      refine l_ReadElement (t := t) rest (pre ++ [c]) _ ?_ ?_ ?_ Q ?_
      · simp [h0]
      · simp
      · simpa using hl
      · intro st' k1 k2 k3 k4
        refine hA st' ?_ ?_ ?_ ?_
        · simp [k1]
        · simp [k2, h0]
        · simp [k3]
        · rw [k4, nulD_cons, if_neg hc]; simp; omega

def eRes (l : List UInt8) : AV :=
  match eGet l with
  | some m => .tup [bAV 5 (some (l.take m)), bAV 5 (some (l.drop m)), .bool true]
  | none => .tup [bAV 5 none, bAV 5 (some l), .bool false]

theorem sl_to {hp : H} {e : Nat} {l : List UInt8} {m : Nat} (h : m ≤ l.length) : slSl hp 1 (bAV e (some l)) (some 0) (some (m : Int)) = some (bAV e (some (l.take m))) := by
  rw [sl_b (by omega) (by omega) (by omega)]; simp
theorem sl_from {hp : H} {e : Nat} {l : List UInt8} {m : Nat} (h : m ≤ l.length) : slSl hp 1 (bAV e (some l)) (some (m : Int)) (some (l.length : Int)) = some (bAV e (some (l.drop m))) := by
  rw [sl_b (by omega) (by omega) (by omega)]
  rw [Int.toNat_natCast, Int.toNat_natCast, List.take_of_length_le (by rw [List.length_drop]; omega)]

theorem c_ReadElement (l : List UInt8) (hl : l.length < 2147483648) : ∀ hE : H, callω fns 64 [bAV 5 (some l)] hE = some (eRes l, hE) := by
  intro hE
  have e0 : AV.slice .nil 0 1 [] = bAV 5 none := rfl
  refine run64 (Nat.le_of_ble_eq_true rfl) ?_
  cases l with
  | nil => simp [eRes, eGet, bl, e0]
  | cons t r =>
    have h1 : ¬ ((r.length : Int) + 1 < 1) := by omega
    have hix := bAV_at (e := 5) (l := t :: r) (k := 0) (by simp)
    simp only [List.getElem_cons_zero, Int.natCast_zero, Int.cast_ofNat_Int] at hix
    have hix0 : ixV 1 (bAV 5 (some (t :: r))) (.int .i64 0) = some (.eptr (.int .u8 (t.toNat : Int) :: byteCells ((t :: r).drop (0 + 1)))) := hix
    simp [bl, h1, hix0]
    refine l_ReadElement (t := t) r [] _ (by simp) (by simp) (by simp at hl ⊢; omega) _ fun st' k1 k2 k3 k4 => ?_
    simp at k2 k3 k4
    cases hn : nul r with
    | none =>
      rw [hn] at k4
      have g : (r.length : Int) + 1 ≤ 1 + (r.length : Int) := by omega
      simp [k2, k4, bl, g, eRes, eGet, hn, k1, e0]
    | some i =>
      rw [hn] at k4
      have hil := (nul_lt hn).1
      have g : ¬ ((r.length : Int) + 1 ≤ 1 + (i : Int)) := by omega
      have w1 : IntKind.i64.wrap (1 + (i : Int) + 1) = (i + 2 : Nat) := by rw [wrap_i64 (by omega) (by simp at hl; omega)]; omega
      have s1 : ∀ hp : H, slSl hp 1 (bAV 5 (some (t :: r))) (some ((i + 2 : Nat) : Int)) (some ((r.length : Int) + 1)) = some (bAV 5 (some (r.drop (i + 1)))) := fun hp => by
        have := sl_from (hp := hp) (e := 5) (l := t :: r) (m := i + 2) (by simp; omega)
        simpa using this
      obtain ⟨n, hV, hV2⟩ := c_vLen t.toNat (some (r.drop (i + 1))) (by simp [bl] at hl ⊢; omega)
      simp only [bl] at hV hV2
      cases hv : vLen (t.toNat : Int) (r.drop (i + 1)) with
      | none =>
        rw [hv] at hV
        simp only [Int.natCast_add, Int.cast_ofNat_Int] at s1 w1
        simp [k2, k3, k4, bl, g, w1, s1, hV, eRes, eGet, hn, hv, k1, e0, ex2_0, ex2_1]
      | some m =>
        obtain ⟨rfl, hm⟩ := hV2 m hv
        rw [hv] at hV
        have w2 : IntKind.i64.wrap (m : Int) = m := wrap_i64 (by omega) (by omega)
        have w3 : IntKind.i64.wrap ((i : Int) + 2 + m) = (i + 2 + m : Nat) := by rw [wrap_i64 (by omega) (by simp at hl; omega)]; omega
        by_cases hle : i + 2 + m ≤ r.length + 1
        · have g2 : ¬ ((r.length : Int) + 1 < ((i + 2 + m : Nat) : Int)) := by omega
          have s2 : ∀ hp : H, slSl hp 1 (bAV 5 (some (t :: r))) (some 0) (some ((i + 2 + m : Nat) : Int)) = some (bAV 5 (some ((t :: r).take (i + 2 + m)))) := fun hp => sl_to (by simp; omega)
          have s3 : ∀ hp : H, slSl hp 1 (bAV 5 (some (t :: r))) (some ((i + 2 + m : Nat) : Int)) (some ((r.length : Int) + 1)) = some (bAV 5 (some ((t :: r).drop (i + 2 + m)))) := fun hp => by
            have := sl_from (hp := hp) (e := 5) (l := t :: r) (m := i + 2 + m) (by simp; omega)
            simpa only [List.length_cons, Int.natCast_add, Int.natCast_one] using this
          have hr : eRes (t :: r) = .tup [bAV 5 (some ((t :: r).take (i + 2 + m))), bAV 5 (some ((t :: r).drop (i + 2 + m))), .bool true] := by
            simp [eRes, eGet, hn, hv, hle]
          rw [hr]
          generalize (t :: r).take (i + 2 + m) = X at *
          generalize (t :: r).drop (i + 2 + m) = Y at *
          simp only [Int.natCast_add, Int.cast_ofNat_Int] at s1 w1 s2 s3 w3 g2
          simp [k2, k3, k4, bl, g, w1, w2, w3, s1, s2, s3, g2, hV, k1, ex2_0, ex2_1]
        · have g2 : ((r.length : Int) + 1 < ((i + 2 + m : Nat) : Int)) := by omega
          have hr : eRes (t :: r) = .tup [bAV 5 none, bAV 5 (some (t :: r)), .bool false] := by
            simp [eRes, eGet, hn, hv, hle]
          rw [hr]
          simp only [Int.natCast_add, Int.cast_ofNat_Int] at s1 w1 w3 g2
          simp [k2, k3, k4, bl, g, w1, w2, w3, s1, g2, hV, k1, e0, ex2_0, ex2_1]

def vData (k : Int) (o : Option (List UInt8)) : Option (List UInt8) := match vGet k (bl o) with | some n => o.map (·.take n) | none => none
def vRest (k : Int) (o : Option (List UInt8)) : Option (List UInt8) := match vGet k (bl o) with | some n => o.map (·.drop n) | none => o
theorem c_readVal (k : Int) (o : Option (List UInt8)) (hl : (bl o).length < 2147483648) :
    ∀ hE : H, callω fns 163 [bAV 5 o, .int .u8 k] hE = some (.tup [bAV 5 (vData k o), bAV 5 (vRest k o), .bool (vGet k (bl o)).isSome], hE) := by
  intro hE
  obtain ⟨n, hV, hV2⟩ := c_vLen k o hl
  have e0 : AV.slice .nil 0 1 [] = bAV 5 none := rfl
  unfold vData vRest vGet
  cases hv : vLen k (bl o) with
  | none =>
    rw [hv] at hV
    refine run163 (Nat.le_of_ble_eq_true rfl) ?_
    simp [hV, hv, ex2_0, ex2_1, e0]
  | some m =>
    obtain ⟨rfl, hm⟩ := hV2 m hv
    rw [hv] at hV
    have w : IntKind.i64.wrap (m : Int) = m := wrap_i64 (by omega) (by omega)
    by_cases hle : m ≤ (bl o).length
    · have g : ¬ (((bl o).length : Int) < m) := by omega
      cases o with
      | none =>
        simp only [bl, List.length_nil, Nat.le_zero] at hle
        subst hle
        have sn : ∀ hp : H, slSl hp 1 (bAV 5 none) (some 0) (some 0) = some (bAV 5 none) := fun hp => by simp [slSl, bAV]
        refine run163 (Nat.le_of_ble_eq_true rfl) ?_
        have w0 : IntKind.i64.wrap 0 = 0 := rfl
        simp [hV, hv, ex2_0, ex2_1, bl, sn, w0]
      | some l =>
        simp only [bl] at hle g
        have s1 : ∀ hp : H, slSl hp 1 (bAV 5 (some l)) (some 0) (some (m : Int)) = some (bAV 5 (some (l.take m))) := fun hp => sl_to hle
        have s2 : ∀ hp : H, slSl hp 1 (bAV 5 (some l)) (some (m : Int)) (some (l.length : Int)) = some (bAV 5 (some (l.drop m))) := fun hp => sl_from hle
        refine run163 (Nat.le_of_ble_eq_true rfl) ?_
        simp [hV, hv, w, g, s1, s2, ex2_0, ex2_1, bl, hle]
    · have g : (((bl o).length : Int) < m) := by omega
      refine run163 (Nat.le_of_ble_eq_true rfl) ?_
      simp [hV, hv, w, g, ex2_0, ex2_1, hle, e0]
theorem c_NewIBE (a b : Option (List UInt8)) : ∀ hE : H, callω fns 166 [bAV 5 a, bAV 5 b] hE = some (.agg [bAV 5 a, bAV 5 b], hE) := by
  intro hE
  refine run166 (Nat.le_of_ble_eq_true rfl) ?_
  simp
def xFew (a b : Option (List UInt8)) : AV := .iface 239 (.agg [bAV 5 a, bAV 5 b])
theorem mk_few (a b : Option (List UInt8)) : mkI 239 (.agg [bAV 5 a, bAV 5 b]) = some (xFew a b) := by simp [mkI, xFew]
@[simp] theorem xFew_gv (a b) : gvV (xFew a b) = xFew a b := rfl
@[simp] theorem xFew_hd (a b) : hdV (xFew a b) = xFew a b := rfl
@[simp] theorem xFew_lf (a b) : lfV (xFew a b) = xFew a b := rfl
@[simp] theorem xFew_left (a b) : (xFew a b).cls .left = xFew a b := rfl
@[simp] theorem xFew_cpV (m : Mode) (a b) : cpV m (xFew a b) = xFew a b := by cases m <;> rfl
@[simp] theorem xFew_cpS (m : Mode) (a b) : cpS m (xFew a b) = xFew a b := by cases m <;> rfl
@[simp] theorem xFew_plain (a b) : (xFew a b).plain = true := rfl
@[simp] theorem xFew_cells (a b) : (xFew a b).cells = [xFew a b] := rfl
@[simp] theorem xFew_several (a b) : (xFew a b).several = false := rfl
@[simp] theorem xFew_kill (t : Nat) (a b) : (xFew a b).kill t = xFew a b := rfl
@[simp] theorem xFew_takeU {st : St} {n : Nat} (a b) : takeU (xFew a b) st n = (xFew a b, st.set n (xFew a b)) := rfl
@[simp high] theorem xFew_eqnil (a b) : aEq 5 true (xFew a b) .nilI = some false := rfl
@[simp high] theorem xFew_neqnil (a b) : aBin .neq 5 true (xFew a b) .nilI = some (.bool true) := rfl
@[simp high] theorem xFew_eqlnil (a b) : aBin .eql 5 true (xFew a b) .nilI = some (.bool false) := rfl

def xVal (k : Int) (o : Option (List UInt8)) : AV := if (vGet k (bl o)).isSome then .nilI else xFew o o
theorem c_ValValidate (k : Int) (o : Option (List UInt8)) (hl : (bl o).length < 2147483648) :
    ∀ hE : H, callω fns 67 [.agg [.int .u8 k, bAV 5 o]] hE = some (xVal k o, hE) := by
  intro hE
  have h := c_readVal k o hl
  have e := c_NewIBE o o
  unfold xVal
  generalize vData k o = X at *
  generalize vRest k o = Y at *
  generalize (vGet k (bl o)).isSome = b at *
  refine run67 (Nat.le_of_ble_eq_true rfl) ?_
  cases b
  · simp [h, ex3_0, ex3_1, ex3_2, e, mk_few]
  · simp [h, ex3_0, ex3_1, ex3_2]
theorem c_ReadVal (k : Int) (o : Option (List UInt8)) (hl : (bl o).length < 2147483648) :
    ∀ hE : H, callω fns 61 [bAV 5 o, .int .u8 k] hE =
      some (if (vGet k (bl o)).isSome then .tup [.agg [.int .u8 k, bAV 5 (vData k o)], bAV 5 (vRest k o), .bool true] else .tup [.agg [.int .u8 0, bAV 5 none], bAV 5 o, .bool false], hE) := by
  intro hE
  have h := c_readVal k o hl
  have e0 : AV.slice .nil 0 1 [] = bAV 5 none := rfl
  generalize vData k o = X at *
  generalize vRest k o = Y at *
  generalize (vGet k (bl o)).isSome = b at *
  refine run61 (Nat.le_of_ble_eq_true rfl) ?_
  cases b
  · simp [h, ex3_0, ex3_1, ex3_2, e0]
  · simp [h, ex3_0, ex3_1, ex3_2]
end Go.Proofs.YtcodfehgnjplcaaGreatDoor.Abs
