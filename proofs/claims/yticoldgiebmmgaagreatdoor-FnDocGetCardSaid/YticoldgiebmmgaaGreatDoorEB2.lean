/- Values and elements cut off any bytes. -/
import Derived.Test.YticoldgiebmmgaaGreatDoorEB1
namespace Go.Proofs.YticoldgiebmmgaaGreatDoor.Abs
set_option linter.all false
open Go.Proofs
set_option linter.unusedVariables false
set_option linter.unusedSimpArgs false
set_option maxRecDepth 100000
set_option maxHeartbeats 8000000

theorem nulD_cons (c : UInt8) (r : List UInt8) : (nul (c :: r)).getD (c :: r).length = if c = 0 then 0 else (nul r).getD r.length + 1 := by
  show (if c = 0 then some 0 else (nul r).map (· + 1)).getD _ = _
  split
  · rfl
  · cases nul r <;> rfl
theorem l_ReadElement {t : UInt8} : ∀ (rest pre : List UInt8) (st : St), st.s 0 = bAV 5 (some (t :: (pre ++ rest))) → st.s 6 = .int .i64 (pre.length + 1 : Nat) → (pre ++ rest).length < 2147483648 → ∀ Q : Ex × St → Prop,
    (∀ st' : St, st'.h = st.h → st'.s 0 = st.s 0 → st'.s 5 = st.s 5 → st'.s 6 = .int .i64 (pre.length + 1 + (nul rest).getD rest.length : Nat) → Q (.exit 0, st')) → LoopR fns lc111_0 st Q
  | [], pre, st, h0, h6, hl, Q, hA => by
    refine loopω_run fns ?_
    simp only [List.append_nil] at h0 hl
    have hlen : (bl (some (t :: pre))).length = pre.length + 1 := by simp [bl]
    have g : ¬ ((pre.length : Int) + 1 < (pre.length + 1 : Nat)) := by omega
    have g2 : ¬ ((pre.length : Int) + 1 < (pre.length : Int) + 1) := by omega
    simp only [Int.natCast_add, Int.natCast_one] at h6
    simp [h0, h6, bl, g2, g]
    refine hA _ ?_ ?_ ?_ ?_ <;> simp [h0, h6, bl, nul]
  | c :: rest, pre, st, h0, h6, hl, Q, hA => by
    refine loopω_run fns ?_
    have hlt : pre.length + 1 < (t :: (pre ++ c :: rest)).length := by simp
    have g : ((pre.length : Int) + 1 < (pre.length : Int) + ((rest.length : Int) + 1) + 1) := by omega
    have hget : (t :: (pre ++ c :: rest))[pre.length + 1] = c := by simp
    have hix := bAV_at (e := 5) hlt
    rw [hget] at hix
    simp only [Int.natCast_add, Int.natCast_one] at h6 hix
    by_cases hc : c = 0
    · have hc' : c.toNat = 0 := by rw [hc]; rfl
      simp [h0, h6, bl, g, hix, hc']
      refine hA _ ?_ ?_ ?_ ?_ <;> simp [h0, h6, nul, hc]
    · have hc' : ¬ c.toNat = 0 := fun e => hc (UInt8.toNat_inj.1 e)
      have w : IntKind.i64.wrap ((pre.length : Int) + 1 + 1) = pre.length + 1 + 1 := wrap_i64 (by omega) (by simp at hl; omega)
      simp [h0, h6, bl, g, hix, hc', w]
      refine l_ReadElement (t := t) rest (pre ++ [c]) _ ?_ ?_ ?_ Q ?_
      · simp [h0]
      · simp
      · simpa using hl
      · intro st' k1 k2 k3 k4
        refine hA st' ?_ ?_ ?_ ?_
        · simp [k1]
        · simp [k2, h0]
        · simp [k3]
        · rw [k4, nulD_cons, if_neg hc]; simp; omega

def eRes (l : List UInt8) : AV :=
  match eGet l with
  | some m => .tup [bAV 5 (some (l.take m)), bAV 5 (some (l.drop m)), .bool true]
  | none => .tup [bAV 5 none, bAV 5 (some l), .bool false]

theorem sl_to {hp : H} {e : Nat} {l : List UInt8} {m : Nat} (h : m ≤ l.length) : slSl hp 1 (bAV e (some l)) (some 0) (some (m : Int)) = some (bAV e (some (l.take m))) := by
  rw [sl_b (by omega) (by omega) (by omega)]; simp
theorem sl_from {hp : H} {e : Nat} {l : List UInt8} {m : Nat} (h : m ≤ l.length) : slSl hp 1 (bAV e (some l)) (some (m : Int)) (some (l.length : Int)) = some (bAV e (some (l.drop m))) := by
  rw [sl_b (by omega) (by omega) (by omega)]
  rw [Int.toNat_natCast, Int.toNat_natCast, List.take_of_length_le (by rw [List.length_drop]; omega)]

theorem c_ReadElement (l : List UInt8) (hl : l.length < 2147483648) : ∀ hE : H, callω fns 111 [bAV 5 (some l)] hE = some (eRes l, hE) := by
  intro hE
  have e0 : AV.slice .nil 0 1 [] = bAV 5 none := rfl
  refine run111 (Nat.le_of_ble_eq_true rfl) ?_
  cases l with
  | nil => simp [eRes, eGet, bl, e0]
  | cons t r =>
    have h1 : ¬ ((r.length : Int) + 1 < 1) := by omega
    have hix := bAV_at (e := 5) (l := t :: r) (k := 0) (by simp)
    simp only [List.getElem_cons_zero, Int.natCast_zero, Int.cast_ofNat_Int] at hix
    have hix0 : ixV 1 (bAV 5 (some (t :: r))) (.int .i64 0) = some (.eptr (.int .u8 (t.toNat : Int) :: byteCells ((t :: r).drop (0 + 1)))) := hix
    simp [bl, h1, hix0]
    refine l_ReadElement (t := t) r [] _ (by simp) (by simp) (by simp at hl ⊢; omega) _ fun st' k1 k2 k3 k4 => ?_
    simp at k2 k3 k4
    cases hn : nul r with
    | none =>
      rw [hn] at k4
      have g : (r.length : Int) + 1 ≤ 1 + (r.length : Int) := by omega
      simp [k2, k4, bl, g, eRes, eGet, hn, k1, e0]
    | some i =>
      rw [hn] at k4
      have hil := (nul_lt hn).1
      have g : ¬ ((r.length : Int) + 1 ≤ 1 + (i : Int)) := by omega
      have w1 : IntKind.i64.wrap (1 + (i : Int) + 1) = (i + 2 : Nat) := by rw [wrap_i64 (by omega) (by simp at hl; omega)]; omega
      have s1 : ∀ hp : H, slSl hp 1 (bAV 5 (some (t :: r))) (some ((i + 2 : Nat) : Int)) (some ((r.length : Int) + 1)) = some (bAV 5 (some (r.drop (i + 1)))) := fun hp => by
        have := sl_from (hp := hp) (e := 5) (l := t :: r) (m := i + 2) (by simp; omega)
        simpa using this
      obtain ⟨n, hV, hV2⟩ := c_vLen t.toNat (some (r.drop (i + 1))) (by simp [bl] at hl ⊢; omega)
      simp only [bl] at hV hV2
      cases hv : vLen (t.toNat : Int) (r.drop (i + 1)) with
      | none =>
        rw [hv] at hV
        simp only [Int.natCast_add, Int.cast_ofNat_Int] at s1 w1
        simp [k2, k3, k4, bl, g, w1, s1, hV, eRes, eGet, hn, hv, k1, e0, ex2_0, ex2_1]
      | some m =>
        obtain ⟨rfl, hm⟩ := hV2 m hv
        rw [hv] at hV
        have w2 : IntKind.i64.wrap (m : Int) = m := wrap_i64 (by omega) (by omega)
        have w3 : IntKind.i64.wrap ((i : Int) + 2 + m) = (i + 2 + m : Nat) := by rw [wrap_i64 (by omega) (by simp at hl; omega)]; omega
        by_cases hle : i + 2 + m ≤ r.length + 1
        · have g2 : ¬ ((r.length : Int) + 1 < ((i + 2 + m : Nat) : Int)) := by omega
          have s2 : ∀ hp : H, slSl hp 1 (bAV 5 (some (t :: r))) (some 0) (some ((i + 2 + m : Nat) : Int)) = some (bAV 5 (some ((t :: r).take (i + 2 + m)))) := fun hp => sl_to (by simp; omega)
          have s3 : ∀ hp : H, slSl hp 1 (bAV 5 (some (t :: r))) (some ((i + 2 + m : Nat) : Int)) (some ((r.length : Int) + 1)) = some (bAV 5 (some ((t :: r).drop (i + 2 + m)))) := fun hp => by
            have := sl_from (hp := hp) (e := 5) (l := t :: r) (m := i + 2 + m) (by simp; omega)
            simpa only [List.length_cons, Int.natCast_add, Int.natCast_one] using this
          have hr : eRes (t :: r) = .tup [bAV 5 (some ((t :: r).take (i + 2 + m))), bAV 5 (some ((t :: r).drop (i + 2 + m))), .bool true] := by
            simp [eRes, eGet, hn, hv, hle]
          rw [hr]
          generalize (t :: r).take (i + 2 + m) = X at *
          generalize (t :: r).drop (i + 2 + m) = Y at *
          simp only [Int.natCast_add, Int.cast_ofNat_Int] at s1 w1 s2 s3 w3 g2
          simp [k2, k3, k4, bl, g, w1, w2, w3, s1, s2, s3, g2, hV, k1, ex2_0, ex2_1]
        · have g2 : ((r.length : Int) + 1 < ((i + 2 + m : Nat) : Int)) := by omega
          have hr : eRes (t :: r) = .tup [bAV 5 none, bAV 5 (some (t :: r)), .bool false] := by
            simp [eRes, eGet, hn, hv, hle]
          rw [hr]
          simp only [Int.natCast_add, Int.cast_ofNat_Int] at s1 w1 w3 g2
          simp [k2, k3, k4, bl, g, w1, w2, w3, s1, g2, hV, k1, e0, ex2_0, ex2_1]

def vData (k : Int) (o : Option (List UInt8)) : Option (List UInt8) := match vGet k (bl o) with | some n => o.map (·.take n) | none => none
def vRest (k : Int) (o : Option (List UInt8)) : Option (List UInt8) := match vGet k (bl o) with | some n => o.map (·.drop n) | none => o
theorem c_readVal (k : Int) (o : Option (List UInt8)) (hl : (bl o).length < 2147483648) :
    ∀ hE : H, callω fns 109 [bAV 5 o, .int .u8 k] hE = some (.tup [bAV 5 (vData k o), bAV 5 (vRest k o), .bool (vGet k (bl o)).isSome], hE) := by
  intro hE
  obtain ⟨n, hV, hV2⟩ := c_vLen k o hl
  have e0 : AV.slice .nil 0 1 [] = bAV 5 none := rfl
  unfold vData vRest vGet
  cases hv : vLen k (bl o) with
  | none =>
    rw [hv] at hV
    refine run109 (Nat.le_of_ble_eq_true rfl) ?_
    simp [hV, hv, ex2_0, ex2_1, e0]
  | some m =>
    obtain ⟨rfl, hm⟩ := hV2 m hv
    rw [hv] at hV
    have w : IntKind.i64.wrap (m : Int) = m := wrap_i64 (by omega) (by omega)
    by_cases hle : m ≤ (bl o).length
    · have g : ¬ (((bl o).length : Int) < m) := by omega
      cases o with
      | none =>
        simp only [bl, List.length_nil, Nat.le_zero] at hle
        subst hle
        have sn : ∀ hp : H, slSl hp 1 (bAV 5 none) (some 0) (some 0) = some (bAV 5 none) := fun hp => by simp [slSl, bAV]
        refine run109 (Nat.le_of_ble_eq_true rfl) ?_
        have w0 : IntKind.i64.wrap 0 = 0 := rfl
        simp [hV, hv, ex2_0, ex2_1, bl, sn, w0]
      | some l =>
        simp only [bl] at hle g
        have s1 : ∀ hp : H, slSl hp 1 (bAV 5 (some l)) (some 0) (some (m : Int)) = some (bAV 5 (some (l.take m))) := fun hp => sl_to hle
        have s2 : ∀ hp : H, slSl hp 1 (bAV 5 (some l)) (some (m : Int)) (some (l.length : Int)) = some (bAV 5 (some (l.drop m))) := fun hp => sl_from hle
        refine run109 (Nat.le_of_ble_eq_true rfl) ?_
        simp [hV, hv, w, g, s1, s2, ex2_0, ex2_1, bl, hle]
    · have g : (((bl o).length : Int) < m) := by omega
      refine run109 (Nat.le_of_ble_eq_true rfl) ?_
      simp [hV, hv, w, g, ex2_0, ex2_1, hle, e0]
theorem c_NewIBE (a b : Option (List UInt8)) : ∀ hE : H, callω fns 110 [bAV 5 a, bAV 5 b] hE = some (.agg [bAV 5 a, bAV 5 b], hE) := by
  intro hE
  refine run110 (Nat.le_of_ble_eq_true rfl) ?_
  simp
def xFew (a b : Option (List UInt8)) : AV := .iface 172 (.agg [bAV 5 a, bAV 5 b])
theorem mk_few (a b : Option (List UInt8)) : mkI 172 (.agg [bAV 5 a, bAV 5 b]) = some (xFew a b) := by simp [mkI, xFew]
@[simp] theorem xFew_gv (a b) : gvV (xFew a b) = xFew a b := rfl
@[simp] theorem xFew_hd (a b) : hdV (xFew a b) = xFew a b := rfl
@[simp] theorem xFew_lf (a b) : lfV (xFew a b) = xFew a b := rfl
@[simp] theorem xFew_left (a b) : (xFew a b).cls .left = xFew a b := rfl
@[simp] theorem xFew_plain (a b) : (xFew a b).plain = true := rfl
@[simp] theorem xFew_cells (a b) : (xFew a b).cells = [xFew a b] := rfl
@[simp] theorem xFew_several (a b) : (xFew a b).several = false := rfl
@[simp] theorem xFew_kill (t : Nat) (a b) : (xFew a b).kill t = xFew a b := rfl
@[simp] theorem xFew_takeU {st : St} {n : Nat} (a b) : takeU (xFew a b) st n = (xFew a b, st.set n (xFew a b)) := rfl
@[simp high] theorem xFew_eqnil (a b) : aEq 5 true (xFew a b) .nilI = some false := rfl
@[simp high] theorem xFew_neqnil (a b) : aBin .neq 5 true (xFew a b) .nilI = some (.bool true) := rfl
@[simp high] theorem xFew_eqlnil (a b) : aBin .eql 5 true (xFew a b) .nilI = some (.bool false) := rfl

def xVal (k : Int) (o : Option (List UInt8)) : AV := if (vGet k (bl o)).isSome then .nilI else xFew o o
theorem c_ValValidate (k : Int) (o : Option (List UInt8)) (hl : (bl o).length < 2147483648) :
    ∀ hE : H, callω fns 159 [.agg [.int .u8 k, bAV 5 o]] hE = some (xVal k o, hE) := by
  intro hE
  have h := c_readVal k o hl
  have e := c_NewIBE o o
  unfold xVal
  generalize vData k o = X at *
  generalize vRest k o = Y at *
  generalize (vGet k (bl o)).isSome = b at *
  refine run159 (Nat.le_of_ble_eq_true rfl) ?_
  cases b
  · simp [h, ex3_0, ex3_1, ex3_2, e, mk_few]
  · simp [h, ex3_0, ex3_1, ex3_2]
theorem c_ReadVal (k : Int) (o : Option (List UInt8)) (hl : (bl o).length < 2147483648) :
    ∀ hE : H, callω fns 65 [bAV 5 o, .int .u8 k] hE =
      some (if (vGet k (bl o)).isSome then .tup [.agg [.int .u8 k, bAV 5 (vData k o)], bAV 5 (vRest k o), .bool true] else .tup [.agg [.int .u8 0, bAV 5 none], bAV 5 o, .bool false], hE) := by
  intro hE
  have h := c_readVal k o hl
  have e0 : AV.slice .nil 0 1 [] = bAV 5 none := rfl
  generalize vData k o = X at *
  generalize vRest k o = Y at *
  generalize (vGet k (bl o)).isSome = b at *
  refine run65 (Nat.le_of_ble_eq_true rfl) ?_
  cases b
  · simp [h, ex3_0, ex3_1, ex3_2, e0]
  · simp [h, ex3_0, ex3_1, ex3_2]
end Go.Proofs.YticoldgiebmmgaaGreatDoor.Abs
