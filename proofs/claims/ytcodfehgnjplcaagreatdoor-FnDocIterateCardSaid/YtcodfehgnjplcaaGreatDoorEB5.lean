/- EB3, EB4, EB5 -/
import Derived.Test.YtcodfehgnjplcaaGreatDoorEB2
/- Elements of any bytes: name, value, whether valid; errors and their codes. -/
namespace Go.Proofs.YtcodfehgnjplcaaGreatDoor.Abs
set_option linter.all false
open Go.Proofs
set_option linter.unusedVariables false
set_option linter.unusedSimpArgs false
set_option maxRecDepth 100000
set_option maxHeartbeats 8000000

def sType : List UInt8 := [101, 108, 101, 109, 101, 110, 116, 32, 105, 115, 32, 109, 105, 115, 115, 105, 110, 103, 32, 116, 121, 112, 101]
def sKey : List UInt8 := [101, 108, 101, 109, 101, 110, 116, 32, 105, 115, 32, 109, 105, 115, 115, 105, 110, 103, 32, 107, 101, 121]
def xMal (l : List UInt8) : AV := .iface 241 (.str (if l = [] then sType else sKey))
theorem sl_tail {hp : H} {e : Nat} {t : UInt8} {r : List UInt8} : slSl hp 1 (bAV e (some (t :: r))) (some 1) (some ((r.length : Int) + 1)) = some (bAV e (some r)) := by
  have := sl_from (hp := hp) (e := e) (l := t :: r) (m := 1) (by simp)
  simpa using this
theorem ix_head {e : Nat} {t : UInt8} {r : List UInt8} : ixV 1 (bAV e (some (t :: r))) (.int .i64 0) = some (.eptr (.int .u8 (t.toNat : Int) :: byteCells r)) := by
  have := bAV_at (e := e) (l := t :: r) (k := 0) (by simp)
  simpa using this
theorem sl_mid {hp : H} {e : Nat} {t : UInt8} {r : List UInt8} {i : Nat} (h : i ≤ r.length) : slSl hp 1 (bAV e (some (t :: r))) (some 1) (some ((i : Int) + 1)) = some (bAV e (some (r.take i))) := by
  rw [sl_b (by omega) (by omega) (by simp; omega)]
  have e1 : ((i : Int) + 1).toNat = i + 1 := by omega
  rw [e1]; simp
theorem sl_past {hp : H} {e : Nat} {t : UInt8} {r : List UInt8} {i : Nat} (h : i < r.length) : slSl hp 1 (bAV e (some (t :: r))) (some ((i : Int) + 2)) (some ((r.length : Int) + 1)) = some (bAV e (some (r.drop (i + 1)))) := by
  have := sl_from (hp := hp) (e := e) (l := t :: r) (m := i + 2) (by simp; omega)
  simpa using this

theorem c_KeyBytesErr (l : List UInt8) (hl : l.length < 2147483648) : ∀ hE : H, callω fns 258 [bAV 5 (some l)] hE =
    some (match eParts l with | some (_, nm, _) => .tup [bAV 5 (some nm), .nilI] | none => .tup [bAV 5 none, xMal l], hE) := by
  intro hE
  have e0 : AV.slice .nil 0 1 [] = bAV 5 none := rfl
  refine run258 (Nat.le_of_ble_eq_true rfl) ?_
  cases l with
  | nil => simp [bl, eParts, mkI, xMal, sType, e0]
  | cons t r =>
    have g : ¬ ((r.length : Int) + 1 = 0) := by omega
    have hI := c_IndexNul (some r)
    simp only [bl] at hI
    cases hn : nul r with
    | none =>
      rw [hn] at hI
      simp [bl, g, sl_tail, hI, eParts, hn, mkI, xMal, sKey, e0]
    | some i =>
      rw [hn] at hI
      have hil := (nul_lt hn).1
      have g2 : ¬ ((i : Int) = -1) := by omega
      have w : IntKind.i64.wrap ((i : Int) + 1) = i + 1 := wrap_i64 (by omega) (by simp at hl; omega)
      have s := fun hp => sl_mid (hp := hp) (e := 5) (t := t) (r := r) (i := i) (by omega)
      simp [bl, g, sl_tail, hI, eParts, hn, g2, w, s]
theorem c_KeyErr (l : List UInt8) (hl : l.length < 2147483648) : ∀ hE : H, callω fns 259 [bAV 5 (some l)] hE =
    some (match eParts l with | some (_, nm, _) => .tup [.str nm, .nilI] | none => .tup [.str [], xMal l], hE) := by
  intro hE
  have h := c_KeyBytesErr l hl
  refine run259 (Nat.le_of_ble_eq_true rfl) ?_
  cases hp : eParts l with
  | none => rw [hp] at h; simp [h, ex2_0, ex2_1, xMal, bl]
  | some q => obtain ⟨k, nm, d⟩ := q; rw [hp] at h; simp [h, ex2_0, ex2_1, bl]
theorem c_KeyBytes (l : List UInt8) (hl : l.length < 2147483648) : ∀ hE : H, callω fns 214 [bAV 5 (some l)] hE =
    some (match eParts l with | some (_, nm, _) => bAV 5 (some nm) | none => bAV 5 none, hE) := by
  intro hE
  have h := c_KeyBytesErr l hl
  refine run214 (Nat.le_of_ble_eq_true rfl) ?_
  cases hp : eParts l with
  | none => rw [hp] at h; simp [h, ex2_0, ex2_1, xMal, bl]
  | some q => obtain ⟨k, nm, d⟩ := q; rw [hp] at h; simp [h, ex2_0, ex2_1, bl]

theorem c_ElemValidate (l : List UInt8) (hl : l.length < 2147483648) : ∀ hE : H, callω fns 172 [bAV 5 (some l)] hE =
    some (match eParts l with | some (k, _, d) => xVal k.toNat (some d) | none => xMal l, hE) := by
  intro hE
  refine run172 (Nat.le_of_ble_eq_true rfl) ?_
  cases l with
  | nil => simp [bl, eParts, mkI, xMal, sType]
  | cons t r =>
    have g : ¬ ((r.length : Int) + 1 < 1) := by omega
    have hI := c_IndexNul (some r)
    simp only [bl] at hI
    cases hn : nul r with
    | none =>
      rw [hn] at hI
      simp [bl, g, sl_tail, hI, eParts, hn, mkI, xMal, sKey]
    | some i =>
      rw [hn] at hI
      have hil := (nul_lt hn).1
      have g2 : ¬ ((i : Int) = -1) := by omega
      have w : IntKind.i64.wrap ((i : Int) + 2) = i + 2 := wrap_i64 (by omega) (by simp at hl; omega)
      have s := fun hp => sl_past (hp := hp) (e := 5) (t := t) (r := r) (i := i) hil
      have hv := c_ValValidate t.toNat (some (r.drop (i + 1))) (by simp [bl] at hl ⊢; omega)
      have hx : xVal (t.toNat : Int) (some (r.drop (i + 1))) = .nilI ∨ xVal (t.toNat : Int) (some (r.drop (i + 1))) = xFew (some (r.drop (i + 1))) (some (r.drop (i + 1))) := by unfold xVal; split; { exact .inl rfl }; { exact .inr rfl }
      rcases hx with hx | hx <;> simp [bl, g, sl_tail, hI, eParts, hn, g2, w, s, ix_head, hv, hx, hn]

def eVal (l : List UInt8) : AV :=
  match eParts l with
  | some (k, _, d) => if (vGet k.toNat d).isSome then .agg [.int .u8 k.toNat, bAV 5 (vData k.toNat (some d))] else .agg [.int .u8 0, bAV 5 none]
  | none => .agg [.int .u8 0, bAV 5 none]
def eValErr (l : List UInt8) : AV :=
  match eParts l with
  | some (k, _, d) => if (vGet k.toNat d).isSome then .nilI else xFew (some l) (some d)
  | none => xMal l
theorem c_ValueErr (l : List UInt8) (hl : l.length < 2147483648) : ∀ hE : H, callω fns 218 [bAV 5 (some l)] hE = some (.tup [eVal l, eValErr l], hE) := by
  intro hE
  have e0 : AV.slice .nil 0 1 [] = bAV 5 none := rfl
  refine run218 (Nat.le_of_ble_eq_true rfl) ?_
  cases l with
  | nil => simp [bl, eParts, mkI, xMal, sType, eVal, eValErr, e0, ldV, stV, St.at, St.setAt, ldO, stO, splice]
  | cons t r =>
    have g : ¬ ((r.length : Int) + 1 = 0) := by omega
    have hI := c_IndexNul (some r)
    simp only [bl] at hI
    cases hn : nul r with
    | none =>
      rw [hn] at hI
      simp [bl, g, sl_tail, hI, eParts, hn, mkI, xMal, sKey, eVal, eValErr, e0]
    | some i =>
      rw [hn] at hI
      have hil := (nul_lt hn).1
      have g2 : ¬ ((i : Int) = -1) := by omega
      have w : IntKind.i64.wrap ((i : Int) + 2) = i + 2 := wrap_i64 (by omega) (by simp at hl; omega)
      have s := fun hp => sl_past (hp := hp) (e := 5) (t := t) (r := r) (i := i) hil
      have hv := c_ReadVal t.toNat (some (r.drop (i + 1))) (by simp [bl] at hl ⊢; omega)
      simp only [bl] at hv
      have hi := c_NewIBE (some (t :: r)) (some (r.drop (i + 1)))
      cases hg : vGet (t.toNat : Int) (r.drop (i + 1)) with
      | none =>
        simp only [bl, hg, Option.isSome_none, Bool.false_eq_true, if_false] at hv
        simp [bl, g, sl_tail, hI, hn, g2, w, s, ix_head, hv, hi, mk_few, eVal, eValErr, eParts, hg, ex3_0, ex3_1, ex3_2, e0]
      | some m =>
        simp only [bl, hg, Option.isSome_some, if_true] at hv
        generalize hX : vData (t.toNat : Int) (some (r.drop (i + 1))) = X at *
        generalize vRest (t.toNat : Int) (some (r.drop (i + 1))) = Y at *
        simp [bl, g, sl_tail, hI, hn, g2, w, s, ix_head, hv, eVal, eValErr, eParts, hg, hX, ex3_0, ex3_1, ex3_2, e0]
theorem c_ElemValue (l : List UInt8) (hl : l.length < 2147483648) : ∀ hE : H, callω fns 170 [bAV 5 (some l)] hE = some (eVal l, hE) := by
  intro hE
  have e0 : AV.slice .nil 0 1 [] = bAV 5 none := rfl
  have h := c_ValueErr l hl
  refine run170 (Nat.le_of_ble_eq_true rfl) ?_
  have hv : ∃ k o, eVal l = .agg [.int .u8 k, bAV 5 o] := by
    unfold eVal; split
    · split; { exact ⟨_, _, rfl⟩ }; { exact ⟨_, _, rfl⟩ }
    · exact ⟨_, _, rfl⟩
  obtain ⟨k, o, hv⟩ := hv
  have hx : eValErr l = .nilI ∨ eValErr l = xMal l ∨ ∃ a b, eValErr l = xFew a b := by
    unfold eValErr; split
    · split; { exact .inl rfl }; { exact .inr (.inr ⟨_, _, rfl⟩) }
    · exact .inr (.inl rfl)
  rw [hv] at h ⊢
  rcases hx with hx | hx | ⟨a, b, hx⟩ <;> (rw [hx] at h; simp [h, ex2_0, ex2_1, xMal])
end Go.Proofs.YtcodfehgnjplcaaGreatDoor.Abs

/- Documents of any bytes: their elements and values, the element with a number, whether they are valid; codes of errors. -/
namespace Go.Proofs.YtcodfehgnjplcaaGreatDoor.Abs
set_option linter.all false
open Go.Proofs
set_option linter.unusedVariables false
set_option linter.unusedSimpArgs false
set_option maxRecDepth 100000
set_option maxHeartbeats 8000000

theorem c_ElemV {l : List UInt8} {m : Nat} (h : eGet l = some m) (hl : l.length < 2147483648) : ∀ hE : H, callω fns 172 [bAV 5 (some (l.take m))] hE = some (if eOk (l.take m) then .nilI else xFew (eDat (l.take m)) (eDat (l.take m)), hE) := by
  have hc := c_ElemValidate (l.take m) (by simp; omega)
  obtain ⟨t, r, i, n, rfl, hn, hv, rfl, hle, hp⟩ := eParts_take h
  intro hE
  rw [hc]
  cases hb : (vGet (t.toNat : Int) ((r.drop (i + 1)).take n)).isSome <;> simp only [hp, xVal, bl, hb, eOk, eDat, if_true, if_false, Bool.false_eq_true]
theorem c_ElemVal {l : List UInt8} {m : Nat} (h : eGet l = some m) (hl : l.length < 2147483648) :
    ∃ k o, (eVal (l.take m) = .agg [.int .u8 k, bAV 5 o] ∧ (bl o).length < 2147483648 ∧ 0 ≤ k ∧ k < 256 ∧ (vGet k (bl o)).isSome = eOk (l.take m)) ∧
      (eOk (l.take m) = true → ∃ t nm d n, eParts (l.take m) = some (t, nm, d) ∧ k = t.toNat ∧ vGet t.toNat d = some n ∧ o = some (d.take n)) := by
  obtain ⟨t, r, i, n, rfl, hn, hv, rfl, hle, hp⟩ := eParts_take h
  have ht := t.toNat_lt
  unfold eVal eOk
  simp only [hp]
  cases hg : vGet (t.toNat : Int) ((r.drop (i + 1)).take n) with
  | none => exact ⟨0, none, ⟨rfl, by simp [bl], by omega, by omega, rfl⟩, fun h => by cases h⟩
  | some q =>
    refine ⟨t.toNat, some (((r.drop (i + 1)).take n).take q), ⟨?_, ?_, by omega, by omega, ?_⟩, fun _ => ⟨t, _, _, q, rfl, rfl, hg, rfl⟩⟩
    · simp [vData, bl, hg]
    · simp [bl] at hl ⊢; omega
    · simp only [bl, Option.isSome_some]
      have hq := vGet_cut hv (by rw [List.length_drop]; omega) hg
      subst hq
      rw [List.take_take, Nat.min_self, hg]
      rfl

theorem RS.app_nil (b : RS) : b.app [] = b := by cases b <;> simp [RS.app]
inductive XC : AV → Int → Prop
  | nil : XC .nilI 0
  | few (a b) : XC (xFew a b) 1
theorem c_code {v : AV} {c : Int} (h : XC v c) : ∀ hE : H, callω fns 65 [v] hE = some (.int .i64 c, hE) := by
  intro hE
  cases h with
  | nil =>
    refine run65 (Nat.le_of_ble_eq_true rfl) ?_
    simp
  | few a b =>
    refine run65 (Nat.le_of_ble_eq_true rfl) ?_
    simp [xFew, taOk, exV]

theorem rest4_some {l : List UInt8} (h : 4 ≤ l.length) : rest4 (some l) = some (l.drop 4) := by
  match l, h with
  | _ :: _ :: _ :: _ :: r, _ => rfl
def dR (l : List UInt8) : List (List UInt8) × Bool := elemsR (l.length + 1) (num32 l - 4) (l.drop 4)
def dE (inv : List UInt8 → Option (List UInt8)) (l : List UInt8) : Option (List UInt8) × Option (List UInt8) := elemsE inv (some l) (l.length + 1) (num32 l - 4) (l.drop 4)
end Go.Proofs.YtcodfehgnjplcaaGreatDoor.Abs

/- Documents of any bytes: values, the element with a number; whether they are valid; codes of errors. -/
namespace Go.Proofs.YtcodfehgnjplcaaGreatDoor.Abs
set_option linter.all false
open Go.Proofs
set_option linter.unusedVariables false
set_option linter.unusedSimpArgs false
set_option maxRecDepth 100000
set_option maxHeartbeats 8000000

theorem eVal_ok {l : List UInt8} {m : Nat} (h : eGet l = some m) (hk : eOk (l.take m) = true) : eVal (l.take m) = .agg (kvC 5 (l.take m)) ∧ (vGet (kv (l.take m)).1 (kv (l.take m)).2).isSome = true := by
  obtain ⟨t, r, i, n, rfl, hn, hv, rfl, hle, hp⟩ := eParts_take h
  unfold eOk at hk
  simp only [hp] at hk
  cases hg : vGet (t.toNat : Int) ((r.drop (i + 1)).take n) with
  | none => rw [hg] at hk; cases hk
  | some q =>
    have hq := vGet_cut hv (by rw [List.length_drop]; omega) hg
    subst hq
    unfold eVal kvC kv
    simp only [hp, hg, Option.isSome_some, if_true, vData, bl, Option.map_some, List.take_take, Nat.min_self]
    exact ⟨trivial, trivial⟩
theorem eVal_no {l : List UInt8} {m : Nat} (h : eGet l = some m) (hk : eOk (l.take m) = false) : eVal (l.take m) = .agg [.int .u8 0, bAV 5 none] := by
  obtain ⟨t, r, i, n, rfl, hn, hv, rfl, hle, hp⟩ := eParts_take h
  unfold eOk at hk
  simp only [hp] at hk
  unfold eVal
  simp only [hp, hk, Bool.false_eq_true, if_false]
theorem vGet0 : vGet 0 [] = none := rfl

theorem l_values {o : Option (List UInt8)} : ∀ (f : Nat) (n : Int) (l : List UInt8) (pre : RS) (st : St), st.s 0 = bAV 5 o → st.s 4 = .int .i32 n → st.s 5 = bAV 5 (some l) → st.s 8 = pre.av 102 2 →
    l.length < f → l.length < 2147483648 → -2147483648 ≤ n → n < 2147483648 → pre.l.length + 2 * l.length < 6442450944 → ∀ Q : Ex × St → Prop,
    ((elemsR f n l).2 = true → ∀ st' : St, st'.h = st.h → st'.s 8 = (pre.app (valsC 5 (elemsR f n l).1)).av 102 2 → Q (.exit 0, st')) →
    ((elemsR f n l).2 = false → ∀ st' : St, st'.h = st.h → st'.s 2 = (pre.app (valsC 5 (elemsR f n l).1)).av 102 2 → st'.s 3 = xFew (elemsE (fun _ => none) o f n l).1 (elemsE (fun _ => none) o f n l).2 → Q (.ret, st')) → LoopR fns lc168_0 st Q
  | 0, n, l, pre, st, h0, h4, h5, h8, hf, hl, hn0, hn1, hp, Q, hA, hB => by omega
  | f + 1, n, l, pre, st, h0, h4, h5, h8, hf, hl, hn0, hn1, hp, Q, hA, hB => by
    refine loopω_run fns ?_
    by_cases hn : n ≤ 1
    · have g : ¬ (1 < n) := by omega
      simp only [elemsR, hn, if_true] at hA
      simp [h4, g]
      refine hA (by simp) _ ?_ ?_ <;> simp [h8, RS.app_nil, valsC]
    · have g : 1 < n := by omega
      have hr := c_ReadElement l hl
      cases he : eGet l with
      | none =>
        have e : eRes l = .tup [bAV 5 none, bAV 5 (some l), .bool false] := by simp [eRes, he]
        rw [e] at hr
        have hi := c_NewIBE o (some l)
        simp only [elemsR, elemsE, hn, if_false, he] at hB
        have w0 : IntKind.i32.wrap 0 = 0 := rfl
        have w1 : IntKind.i32.wrap n = n := i32_small hn0 hn1
        simp [xFew, h0, h4, h5, h8, g, hr, hi, mk_few, ex3_0, ex3_1, ex3_2, bl, w0, w1]
        refine hB (by simp) _ ?_ ?_ ?_ <;> simp [RS.app_nil, xFew, valsC]
      | some m =>
        have hm := eGet_le he
        have e : eRes l = .tup [bAV 5 (some (l.take m)), bAV 5 (some (l.drop m)), .bool true] := by simp [eRes, he]
        rw [e] at hr
        have hX : (l.take m).length = m := by simp; omega
        have hY : (l.drop m).length = l.length - m := by simp
        have w0 : IntKind.i32.wrap (m : Int) = m := i32_small (by omega) (by omega)
        have w1 : IntKind.i32.wrap (n - m) = n - m := i32_small (by omega) (by omega)
        simp only [elemsR, elemsE, hn, if_false, he] at hA hB
        have hev := c_ElemValue (l.take m) (by omega)
        cases hk : eOk (l.take m) with
        | false =>
          have hv := c_ValValidate 0 none (by simp [bl])
          rw [eVal_no he hk] at hev
          have hx : xVal 0 none = xFew none none := by simp [xVal, bl, vGet0]
          rw [hx] at hv
          simp only [hk, Bool.false_eq_true, if_false, xFew] at hv hB
          generalize l.take m = X at *
          simp [xFew, h0, h4, h5, h8, g, hr, hev, hv, ex3_0, ex3_1, ex3_2, bl, hX, w0, w1]
          refine hB (by simp) _ ?_ ?_ ?_ <;> simp [RS.app_nil, xFew, valsC]
        | true =>
          obtain ⟨e1, e2⟩ := eVal_ok he hk
          rw [e1] at hev
          simp only [hk, if_true] at hA hB
          generalize l.take m = X at *
          have hkl : (kv X).2.length < 2147483648 := by
            have : (kv X).2.length ≤ X.length := by
              unfold kv
              cases X with
              | nil => simp [eParts]
              | cons t r =>
                simp only [eParts]
                cases nul r with
                | none => simp
                | some i => simp; omega
            omega
          have hv := c_ValValidate (kv X).1 (some (kv X).2) hkl
          have hx : xVal (kv X).1 (some (kv X).2) = .nilI := by simp [xVal, bl, e2]
          rw [hx] at hv
          have ha : ∀ hp : H, apV hp 102 2 32 false (pre.av 102 2) (.slice (.own true) 102 2 [.int .u8 (kv X).1, bAV 5 (some (kv X).2)]) = some ((pre.app [.int .u8 (kv X).1, bAV 5 (some (kv X).2)]).av 102 2) := fun hp =>
            RS.apV (by simp only [List.length_cons, List.length_nil, tooLong]; omega) (by simp only [List.length_cons, List.length_nil, tooLong]; omega)
          simp only [kvC] at hev
          have hvc : ∀ es, valsC 5 (X :: es) = [.int .u8 (kv X).1, bAV 5 (some (kv X).2)] ++ valsC 5 es := fun _ => rfl
          generalize (kv X).1 = K at *
          generalize (kv X).2 = D at *
          simp [h0, h4, h5, h8, g, hr, hev, hv, ex3_0, ex3_1, ex3_2, bl, hX, w0, w1, ha]
          refine l_values (o := o) f (n - m) (l.drop m) (pre.app [.int .u8 K, bAV 5 (some D)]) _ ?_ ?_ ?_ ?_ ?_ ?_ (by omega) (by omega) ?_ Q (fun hb st' k1 k2 => hA hb st' ?_ ?_) (fun hb st' k1 k2 k3 => hB hb st' ?_ ?_ ?_)
          · simp [h0]
          · simp
          · simp
          · simp
          · omega
          · omega
          · rw [RS.l_app]; simp only [List.length_append, List.length_cons, List.length_nil]; omega
          · rw [k1]
          · rw [k2, RS.app_app, hvc]
          · rw [k1]
          · rw [k2, RS.app_app, hvc]
          · exact k3
theorem c_values (l : List UInt8) (hl : l.length < 2147483648) : ∀ hE : H, callω fns 168 [bAV 5 (some l)] hE =
    some (if okL l then .tup [(RS.mk (valsC 5 (dR l).1)).av 102 2, if (dR l).2 then .nilI else xFew (dE (fun _ => none) l).1 (dE (fun _ => none) l).2] else .tup [.slice .nil 0 1 [], xFew (some l) (rest4 (some l))], hE) := by
  intro hE
  have hR := c_RLen (some l)
  simp only [bl] at hR
  by_cases hk : okL l = true
  case neg =>
    simp only [Bool.not_eq_true] at hk
    have hi := c_NewIBE (some l) (rest4 (some l))
    rw [hk] at hR
    generalize rest4 (some l) = R at *
    refine run168 (Nat.le_of_ble_eq_true rfl) ?_
    simp [hR, hk, hi, xFew, mkI, ex3_0, ex3_1, ex3_2]
  case pos =>
    obtain ⟨h4, h0⟩ := okL_le hk
    rw [hk, rest4_some h4] at hR
    have hr := num32_range l
    have w : IntKind.i32.wrap (num32 l - 4) = num32 l - 4 := i32_small (by omega) (by omega)
    have hd : (l.drop 4).length = l.length - 4 := by simp
    rw [if_pos hk]
    unfold dR dE
    generalize hN : num32 l = N at *
    generalize hL : l.drop 4 = L at *
    refine run168 (Nat.le_of_ble_eq_true rfl) ?_
    simp [hR, w, ex3_0, ex3_1, ex3_2]
    refine l_values (o := some l) (l.length + 1) (N - 4) L RS.nil _ ?_ ?_ ?_ ?_ (by omega) (by omega) (by omega) (by omega) ?_ _ (fun hb st' k1 k2 => ?_) (fun hb st' k1 k2 k3 => ?_)
    · simp
    · simp
    · simp
    · simp [RS.av]
    · simp [RS.l]; omega
    · simp [k1, k2, hb, RS.nil_app]
    · simp only [xFew] at k3
      simp [k1, k2, k3, hb, RS.nil_app, xFew]

/-! ### Whether it is valid -/
def sLen : List UInt8 := [100, 111, 99, 117, 109, 101, 110, 116, 32, 111, 114, 32, 97, 114, 114, 97, 121, 32, 108, 101, 110, 103, 116, 104, 32, 105, 115, 32, 105, 110, 118, 97, 108, 105, 100]
def sNull : List UInt8 := [100, 111, 99, 117, 109, 101, 110, 116, 32, 111, 114, 32, 97, 114, 114, 97, 121, 32, 101, 110, 100, 32, 105, 115, 32, 109, 105, 115, 115, 105, 110, 103, 32, 110, 117, 108, 108, 32, 98, 121, 116, 101]
def xVE (s : List UInt8) : AV := .iface 240 (.str s)
def endX : List UInt8 → AV
  | [] => xVE sNull
  | c :: _ => if c = 0 then .nilI else xVE sNull
theorem l_Validate {o : Option (List UInt8)} : ∀ (f : Nat) (n : Int) (l : List UInt8) (st : St), st.s 0 = bAV 5 o → st.s 3 = .int .i32 n → st.s 4 = bAV 5 (some l) →
    l.length < f → l.length < 2147483648 → -2147483648 ≤ n → n < 2147483648 → ∀ Q : Ex × St → Prop,
    ((elemsR f n l).2 = true → ∀ st' : St, st'.h = st.h → st'.s 4 = bAV 5 (some (elemsT f n l)) → Q (.exit 0, st')) →
    ((elemsR f n l).2 = false → ∀ st' : St, st'.h = st.h → st'.s 2 = xFew (elemsE eDat o f n l).1 (elemsE eDat o f n l).2 → Q (.ret, st')) → LoopR fns lc162_0 st Q
  | 0, n, l, st, h0, h4, h5, hf, hl, hn0, hn1, Q, hA, hB => by omega
  | f + 1, n, l, st, h0, h4, h5, hf, hl, hn0, hn1, Q, hA, hB => by
    refine loopω_run fns ?_
    by_cases hn : n ≤ 1
    · have g : ¬ (1 < n) := by omega
      simp only [elemsR, elemsT, hn, if_true] at hA
      simp [h4, g]
      refine hA (by simp) _ ?_ ?_ <;> simp [h5]
    · have g : 1 < n := by omega
      have hr := c_ReadElement l hl
      cases he : eGet l with
      | none =>
        have e : eRes l = .tup [bAV 5 none, bAV 5 (some l), .bool false] := by simp [eRes, he]
        rw [e] at hr
        have hi := c_NewIBE o (some l)
        simp only [elemsR, elemsE, hn, if_false, he] at hB
        have w0 : IntKind.i32.wrap 0 = 0 := rfl
        have w1 : IntKind.i32.wrap n = n := i32_small hn0 hn1
        simp [xFew, h0, h4, h5, g, hr, hi, mk_few, ex3_0, ex3_1, ex3_2, bl, w0, w1]
        refine hB (by simp) _ ?_ ?_ <;> simp [xFew]
      | some m =>
        have hm := eGet_le he
        have e : eRes l = .tup [bAV 5 (some (l.take m)), bAV 5 (some (l.drop m)), .bool true] := by simp [eRes, he]
        rw [e] at hr
        have hv := c_ElemV he hl
        have hX : (l.take m).length = m := by simp; omega
        have hY : (l.drop m).length = l.length - m := by simp
        have w0 : IntKind.i32.wrap (m : Int) = m := i32_small (by omega) (by omega)
        have w1 : IntKind.i32.wrap (n - m) = n - m := i32_small (by omega) (by omega)
        simp only [elemsR, elemsE, elemsT, hn, if_false, he] at hA hB
        cases hk : eOk (l.take m) with
        | false =>
          simp only [hk, Bool.false_eq_true, if_false, xFew] at hv hB
          generalize l.take m = X at *
          generalize eDat X = d at *
          simp [xFew, h0, h4, h5, g, hr, hv, ex3_0, ex3_1, ex3_2, bl, hX, w0, w1]
          refine hB (by simp) _ ?_ ?_ <;> simp [xFew]
        | true =>
          simp only [hk, if_true] at hv hA hB
          generalize l.take m = X at *
          simp [h0, h4, h5, g, hr, hv, ex3_0, ex3_1, ex3_2, bl, hX, w0, w1]
          refine l_Validate (o := o) f (n - m) (l.drop m) _ ?_ ?_ ?_ ?_ ?_ (by omega) (by omega) Q (fun hb st' k1 k2 => hA hb st' ?_ ?_) (fun hb st' k1 k2 => hB hb st' ?_ ?_)
          · simp [h0]
          · simp
          · simp
          · omega
          · omega
          · rw [k1]
          · exact k2
          · rw [k1]
          · exact k2
def docX (l : List UInt8) : AV :=
  if okL l = false then xFew (some l) (rest4 (some l)) else if (l.length : Int) < num32 l then xVE [100, 111, 99, 117, 109, 101, 110, 116, 32, 108, 101, 110, 103, 116, 104, 32, 101, 120, 99, 101, 101, 100, 115, 32, 97, 118, 97, 105, 108, 97, 98, 108, 101, 32, 98, 121, 116, 101, 115]
  else if num32 l < 5 then xVE sLen else if (l[(num32 l - 1).toNat]?) ≠ some 0 then xVE sNull
  else if (dR l).2 = false then xFew (dE eDat l).1 (dE eDat l).2 else endX (elemsT (l.length + 1) (num32 l - 4) (l.drop 4))
theorem c_lenErr (a b : Int) : ∀ hE : H, callω fns 219 [.int .i64 a, .int .i64 b] hE = some (xVE [100, 111, 99, 117, 109, 101, 110, 116, 32, 108, 101, 110, 103, 116, 104, 32, 101, 120, 99, 101, 101, 100, 115, 32, 97, 118, 97, 105, 108, 97, 98, 108, 101, 32, 98, 121, 116, 101, 115], hE) := by
  intro hE
  have h1 : ∀ hE : H, callω fns 260 [.str [100, 111, 99, 117, 109, 101, 110, 116], .int .i64 a, .int .i64 b] hE = some (xVE [100, 111, 99, 117, 109, 101, 110, 116, 32, 108, 101, 110, 103, 116, 104, 32, 101, 120, 99, 101, 101, 100, 115, 32, 97, 118, 97, 105, 108, 97, 98, 108, 101, 32, 98, 121, 116, 101, 115], hE) := by
    intro hE
    refine run260 (Nat.le_of_ble_eq_true rfl) ?_
    simp [mkI, xVE, maxLen]
  refine run219 (Nat.le_of_ble_eq_true rfl) ?_
  simp [h1, xVE]
theorem c_DocValidate (l : List UInt8) (hl : l.length < 2147483648) : ∀ hE : H, callω fns 162 [bAV 5 (some l)] hE = some (docX l, hE) := by
  intro hE
  have hR := c_RLen (some l)
  simp only [bl] at hR
  unfold docX
  by_cases hk : okL l = true
  case neg =>
    simp only [Bool.not_eq_true] at hk
    have hi := c_NewIBE (some l) (rest4 (some l))
    rw [hk] at hR
    generalize rest4 (some l) = R at *
    refine run162 (Nat.le_of_ble_eq_true rfl) ?_
    simp [hR, hk, hi, xFew, mkI, ex3_0, ex3_1, ex3_2]
  case pos =>
    obtain ⟨h4, h0⟩ := okL_le hk
    rw [hk, rest4_some h4] at hR
    have hr := num32_range l
    have w : IntKind.i32.wrap (num32 l - 4) = num32 l - 4 := i32_small (by omega) (by omega)
    have w64 : IntKind.i64.wrap (num32 l) = num32 l := wrap_i64 (by omega) (by omega)
    have w1 : IntKind.i32.wrap (num32 l - 1) = num32 l - 1 := i32_small (by omega) (by omega)
    have hd : (l.drop 4).length = l.length - 4 := by simp
    have hle := c_lenErr (num32 l) l.length
    have hk' : ¬ (okL l = false) := by simp [hk]
    rw [if_neg hk']
    refine run162 (Nat.le_of_ble_eq_true rfl) ?_
    by_cases c1 : (l.length : Int) < num32 l
    · rw [if_pos c1]
      generalize num32 l = N at *
      generalize l.drop 4 = L at *
      simp only [xVE] at hle
      simp [hR, w64, ex3_0, ex3_1, ex3_2, bl, c1, hle, xVE]
    rw [if_neg c1]
    by_cases c2 : num32 l < 5
    · rw [if_pos c2]
      generalize num32 l = N at *
      generalize l.drop 4 = L at *
      simp [hR, w64, ex3_0, ex3_1, ex3_2, bl, c1, c2, mkI, xVE, sLen]
    rw [if_neg c2]
    have hlt : (num32 l - 1).toNat < l.length := by omega
    have hix : ixV 1 (bAV 5 (some l)) (.int .i32 (((num32 l - 1).toNat : Nat) : Int)) = some (.eptr (.int .u8 (l[(num32 l - 1).toNat].toNat : Int) :: byteCells (l.drop ((num32 l - 1).toNat + 1)))) := bAV_at (e := 5) hlt
    have ei : (((num32 l - 1).toNat : Nat) : Int) = num32 l - 1 := by omega
    rw [ei] at hix
    rw [List.getElem?_eq_getElem hlt]
    generalize l[(num32 l - 1).toNat] = c at *
    by_cases c3 : c = 0
    case neg =>
      have c3' : ¬ c.toNat = 0 := fun e => c3 (UInt8.toNat_inj.1 e)
      rw [if_pos (by simp [c3])]
      generalize num32 l = N at *
      generalize l.drop 4 = L at *
      simp [hR, w64, w1, ex3_0, ex3_1, ex3_2, bl, c1, c2, hix, c3', mkI, xVE, sNull]
    subst c3
    rw [if_neg (by simp)]
    unfold dR dE
    generalize hN : num32 l = N at *
    generalize hL : l.drop 4 = L at *
    simp [hR, w64, w1, w, ex3_0, ex3_1, ex3_2, bl, c1, c2, hix]
    refine l_Validate (o := some l) (l.length + 1) (N - 4) L _ ?_ ?_ ?_ (by omega) (by omega) (by omega) (by omega) _ (fun hb st' k1 k2 => ?_) (fun hb st' k1 k2 => ?_)
    · simp
    · simp
    · simp
    · generalize elemsT (l.length + 1) (N - 4) L = T at *
      cases T with
      | nil => simp [k1, k2, hb, endX, bl, mkI, xVE, sNull, pkV, AV.several]
      | cons c r =>
        have g : ¬ ((r.length : Int) + 1 < 1) := by omega
        by_cases hc : c = 0
        · have hc' : c.toNat = 0 := by rw [hc]; rfl
          simp [k1, k2, hb, endX, bl, hc, g, ix_head, pkV, AV.several]
        · have hc' : ¬ c.toNat = 0 := fun e => hc (UInt8.toNat_inj.1 e)
          simp [k1, k2, hb, endX, bl, hc, hc', g, ix_head, mkI, xVE, sNull, pkV, AV.several]
    · simp only [xFew] at k2
      simp [k1, k2, hb, xFew]
end Go.Proofs.YtcodfehgnjplcaaGreatDoor.Abs
