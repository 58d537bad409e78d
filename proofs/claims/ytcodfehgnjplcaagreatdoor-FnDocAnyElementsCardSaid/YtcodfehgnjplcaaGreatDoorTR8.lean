/- EB3, EB4, EB5, EB6, TR8 -/
import Derived.Test.YtcodfehgnjplcaaGreatDoorEB2
/- Elements of any bytes: name, value, whether valid; errors and their codes. -/
namespace Go.Proofs.YtcodfehgnjplcaaGreatDoor.Abs
set_option linter.all false
open Go.Proofs
set_option linter.unusedVariables false
set_option linter.unusedSimpArgs false
set_option maxRecDepth 100000
set_option maxHeartbeats 8000000

def sType : List UInt8 := [101, 108, 101, 109, 101, 110, 116, 32, 105, 115, 32, 109, 105, 115, 115, 105, 110, 103, 32, 116, 121, 112, 101]
def sKey : List UInt8 := [101, 108, 101, 109, 101, 110, 116, 32, 105, 115, 32, 109, 105, 115, 115, 105, 110, 103, 32, 107, 101, 121]
def xMal (l : List UInt8) : AV := .iface 241 (.str (if l = [] then sType else sKey))
theorem sl_tail {hp : H} {e : Nat} {t : UInt8} {r : List UInt8} : slSl hp 1 (bAV e (some (t :: r))) (some 1) (some ((r.length : Int) + 1)) = some (bAV e (some r)) := by
  have := sl_from (hp := hp) (e := e) (l := t :: r) (m := 1) (by simp)
  simpa using this
theorem ix_head {e : Nat} {t : UInt8} {r : List UInt8} : ixV 1 (bAV e (some (t :: r))) (.int .i64 0) = some (.eptr (.int .u8 (t.toNat : Int) :: byteCells r)) := by
  have := bAV_at (e := e) (l := t :: r) (k := 0) (by simp)
  simpa using this
theorem sl_mid {hp : H} {e : Nat} {t : UInt8} {r : List UInt8} {i : Nat} (h : i ≤ r.length) : slSl hp 1 (bAV e (some (t :: r))) (some 1) (some ((i : Int) + 1)) = some (bAV e (some (r.take i))) := by
  rw [sl_b (by omega) (by omega) (by simp; omega)]
  have e1 : ((i : Int) + 1).toNat = i + 1 := by omega
  rw [e1]; simp
theorem sl_past {hp : H} {e : Nat} {t : UInt8} {r : List UInt8} {i : Nat} (h : i < r.length) : slSl hp 1 (bAV e (some (t :: r))) (some ((i : Int) + 2)) (some ((r.length : Int) + 1)) = some (bAV e (some (r.drop (i + 1)))) := by
  have := sl_from (hp := hp) (e := e) (l := t :: r) (m := i + 2) (by simp; omega)
  simpa using this

theorem c_KeyBytesErr (l : List UInt8) (hl : l.length < 2147483648) : ∀ hE : H, callω fns 258 [bAV 5 (some l)] hE =
    some (match eParts l with | some (_, nm, _) => .tup [bAV 5 (some nm), .nilI] | none => .tup [bAV 5 none, xMal l], hE) := by
  intro hE
  have e0 : AV.slice .nil 0 1 [] = bAV 5 none := rfl
  refine run258 (Nat.le_of_ble_eq_true rfl) ?_
  cases l with
  | nil => simp [bl, eParts, mkI, xMal, sType, e0]
  | cons t r =>
    have g : ¬ ((r.length : Int) + 1 = 0) := by omega
    have hI := c_IndexNul (some r)
    simp only [bl] at hI
    cases hn : nul r with
    | none =>
      rw [hn] at hI
      simp [bl, g, sl_tail, hI, eParts, hn, mkI, xMal, sKey, e0]
    | some i =>
      rw [hn] at hI
      have hil := (nul_lt hn).1
      have g2 : ¬ ((i : Int) = -1) := by omega
      have w : IntKind.i64.wrap ((i : Int) + 1) = i + 1 := wrap_i64 (by omega) (by simp at hl; omega)
      have s := fun hp => sl_mid (hp := hp) (e := 5) (t := t) (r := r) (i := i) (by omega)
      simp [bl, g, sl_tail, hI, eParts, hn, g2, w, s]
theorem c_KeyErr (l : List UInt8) (hl : l.length < 2147483648) : ∀ hE : H, callω fns 259 [bAV 5 (some l)] hE =
    some (match eParts l with | some (_, nm, _) => .tup [.str nm, .nilI] | none => .tup [.str [], xMal l], hE) := by
  intro hE
  have h := c_KeyBytesErr l hl
  refine run259 (Nat.le_of_ble_eq_true rfl) ?_
  cases hp : eParts l with
  | none => rw [hp] at h; simp [h, ex2_0, ex2_1, xMal, bl]
  | some q => obtain ⟨k, nm, d⟩ := q; rw [hp] at h; simp [h, ex2_0, ex2_1, bl]
theorem c_KeyBytes (l : List UInt8) (hl : l.length < 2147483648) : ∀ hE : H, callω fns 214 [bAV 5 (some l)] hE =
    some (match eParts l with | some (_, nm, _) => bAV 5 (some nm) | none => bAV 5 none, hE) := by
  intro hE
  have h := c_KeyBytesErr l hl
  refine run214 (Nat.le_of_ble_eq_true rfl) ?_
  cases hp : eParts l with
  | none => rw [hp] at h; simp [h, ex2_0, ex2_1, xMal, bl]
  | some q => obtain ⟨k, nm, d⟩ := q; rw [hp] at h; simp [h, ex2_0, ex2_1, bl]

theorem c_ElemValidate (l : List UInt8) (hl : l.length < 2147483648) : ∀ hE : H, callω fns 172 [bAV 5 (some l)] hE =
    some (match eParts l with | some (k, _, d) => xVal k.toNat (some d) | none => xMal l, hE) := by
  intro hE
  refine run172 (Nat.le_of_ble_eq_true rfl) ?_
  cases l with
  | nil => simp [bl, eParts, mkI, xMal, sType]
  | cons t r =>
    have g : ¬ ((r.length : Int) + 1 < 1) := by omega
    have hI := c_IndexNul (some r)
    simp only [bl] at hI
    cases hn : nul r with
    | none =>
      rw [hn] at hI
      simp [bl, g, sl_tail, hI, eParts, hn, mkI, xMal, sKey]
    | some i =>
      rw [hn] at hI
      have hil := (nul_lt hn).1
      have g2 : ¬ ((i : Int) = -1) := by omega
      have w : IntKind.i64.wrap ((i : Int) + 2) = i + 2 := wrap_i64 (by omega) (by simp at hl; omega)
      have s := fun hp => sl_past (hp := hp) (e := 5) (t := t) (r := r) (i := i) hil
      have hv := c_ValValidate t.toNat (some (r.drop (i + 1))) (by simp [bl] at hl ⊢; omega)
      have hx : xVal (t.toNat : Int) (some (r.drop (i + 1))) = .nilI ∨ xVal (t.toNat : Int) (some (r.drop (i + 1))) = xFew (some (r.drop (i + 1))) (some (r.drop (i + 1))) := by unfold xVal; split; { exact .inl rfl }; { exact .inr rfl }
      rcases hx with hx | hx <;> simp [bl, g, sl_tail, hI, eParts, hn, g2, w, s, ix_head, hv, hx, hn]

def eVal (l : List UInt8) : AV :=
  match eParts l with
  | some (k, _, d) => if (vGet k.toNat d).isSome then .agg [.int .u8 k.toNat, bAV 5 (vData k.toNat (some d))] else .agg [.int .u8 0, bAV 5 none]
  | none => .agg [.int .u8 0, bAV 5 none]
def eValErr (l : List UInt8) : AV :=
  match eParts l with
  | some (k, _, d) => if (vGet k.toNat d).isSome then .nilI else xFew (some l) (some d)
  | none => xMal l
theorem c_ValueErr (l : List UInt8) (hl : l.length < 2147483648) : ∀ hE : H, callω fns 218 [bAV 5 (some l)] hE = some (.tup [eVal l, eValErr l], hE) := by
  intro hE
  have e0 : AV.slice .nil 0 1 [] = bAV 5 none := rfl
  refine run218 (Nat.le_of_ble_eq_true rfl) ?_
  cases l with
  | nil => simp [bl, eParts, mkI, xMal, sType, eVal, eValErr, e0, ldV, stV, St.at, St.setAt, ldO, stO, splice]
  | cons t r =>
    have g : ¬ ((r.length : Int) + 1 = 0) := by omega
    have hI := c_IndexNul (some r)
    simp only [bl] at hI
    cases hn : nul r with
    | none =>
      rw [hn] at hI
      simp [bl, g, sl_tail, hI, eParts, hn, mkI, xMal, sKey, eVal, eValErr, e0]
    | some i =>
      rw [hn] at hI
      have hil := (nul_lt hn).1
      have g2 : ¬ ((i : Int) = -1) := by omega
      have w : IntKind.i64.wrap ((i : Int) + 2) = i + 2 := wrap_i64 (by omega) (by simp at hl; omega)
      have s := fun hp => sl_past (hp := hp) (e := 5) (t := t) (r := r) (i := i) hil
      have hv := c_ReadVal t.toNat (some (r.drop (i + 1))) (by simp [bl] at hl ⊢; omega)
      simp only [bl] at hv
      have hi := c_NewIBE (some (t :: r)) (some (r.drop (i + 1)))
      cases hg : vGet (t.toNat : Int) (r.drop (i + 1)) with
      | none =>
        simp only [bl, hg, Option.isSome_none, Bool.false_eq_true, if_false] at hv
        simp [bl, g, sl_tail, hI, hn, g2, w, s, ix_head, hv, hi, mk_few, eVal, eValErr, eParts, hg, ex3_0, ex3_1, ex3_2, e0]
      | some m =>
        simp only [bl, hg, Option.isSome_some, if_true] at hv
        generalize hX : vData (t.toNat : Int) (some (r.drop (i + 1))) = X at *
        generalize vRest (t.toNat : Int) (some (r.drop (i + 1))) = Y at *
        simp [bl, g, sl_tail, hI, hn, g2, w, s, ix_head, hv, eVal, eValErr, eParts, hg, hX, ex3_0, ex3_1, ex3_2, e0]
theorem c_ElemValue (l : List UInt8) (hl : l.length < 2147483648) : ∀ hE : H, callω fns 170 [bAV 5 (some l)] hE = some (eVal l, hE) := by
  intro hE
  have e0 : AV.slice .nil 0 1 [] = bAV 5 none := rfl
  have h := c_ValueErr l hl
  refine run170 (Nat.le_of_ble_eq_true rfl) ?_
  have hv : ∃ k o, eVal l = .agg [.int .u8 k, bAV 5 o] := by
    unfold eVal; split
    · split; { exact ⟨_, _, rfl⟩ }; { exact ⟨_, _, rfl⟩ }
    · exact ⟨_, _, rfl⟩
  obtain ⟨k, o, hv⟩ := hv
  have hx : eValErr l = .nilI ∨ eValErr l = xMal l ∨ ∃ a b, eValErr l = xFew a b := by
    unfold eValErr; split
    · split; { exact .inl rfl }; { exact .inr (.inr ⟨_, _, rfl⟩) }
    · exact .inr (.inl rfl)
  rw [hv] at h ⊢
  rcases hx with hx | hx | ⟨a, b, hx⟩ <;> (rw [hx] at h; simp [h, ex2_0, ex2_1, xMal])
end Go.Proofs.YtcodfehgnjplcaaGreatDoor.Abs

/- Documents of any bytes: their elements and values, the element with a number, whether they are valid; codes of errors. -/
namespace Go.Proofs.YtcodfehgnjplcaaGreatDoor.Abs
set_option linter.all false
open Go.Proofs
set_option linter.unusedVariables false
set_option linter.unusedSimpArgs false
set_option maxRecDepth 100000
set_option maxHeartbeats 8000000

theorem c_ElemV {l : List UInt8} {m : Nat} (h : eGet l = some m) (hl : l.length < 2147483648) : ∀ hE : H, callω fns 172 [bAV 5 (some (l.take m))] hE = some (if eOk (l.take m) then .nilI else xFew (eDat (l.take m)) (eDat (l.take m)), hE) := by
  have hc := c_ElemValidate (l.take m) (by simp; omega)
  obtain ⟨t, r, i, n, rfl, hn, hv, rfl, hle, hp⟩ := eParts_take h
  intro hE
  rw [hc]
  cases hb : (vGet (t.toNat : Int) ((r.drop (i + 1)).take n)).isSome <;> simp only [hp, xVal, bl, hb, eOk, eDat, if_true, if_false, Bool.false_eq_true]
theorem c_ElemVal {l : List UInt8} {m : Nat} (h : eGet l = some m) (hl : l.length < 2147483648) :
    ∃ k o, (eVal (l.take m) = .agg [.int .u8 k, bAV 5 o] ∧ (bl o).length < 2147483648 ∧ 0 ≤ k ∧ k < 256 ∧ (vGet k (bl o)).isSome = eOk (l.take m)) ∧
      (eOk (l.take m) = true → ∃ t nm d n, eParts (l.take m) = some (t, nm, d) ∧ k = t.toNat ∧ vGet t.toNat d = some n ∧ o = some (d.take n)) := by
  obtain ⟨t, r, i, n, rfl, hn, hv, rfl, hle, hp⟩ := eParts_take h
  have ht := t.toNat_lt
  unfold eVal eOk
  simp only [hp]
  cases hg : vGet (t.toNat : Int) ((r.drop (i + 1)).take n) with
  | none => exact ⟨0, none, ⟨rfl, by simp [bl], by omega, by omega, rfl⟩, fun h => by cases h⟩
  | some q =>
    refine ⟨t.toNat, some (((r.drop (i + 1)).take n).take q), ⟨?_, ?_, by omega, by omega, ?_⟩, fun _ => ⟨t, _, _, q, rfl, rfl, hg, rfl⟩⟩
    · simp [vData, bl, hg]
    · simp [bl] at hl ⊢; omega
    · simp only [bl, Option.isSome_some]
      have hq := vGet_cut hv (by rw [List.length_drop]; omega) hg
      subst hq
      rw [List.take_take, Nat.min_self, hg]
      rfl

theorem RS.app_nil (b : RS) : b.app [] = b := by cases b <;> simp [RS.app]
inductive XC : AV → Int → Prop
  | nil : XC .nilI 0
  | few (a b) : XC (xFew a b) 1
theorem c_code {v : AV} {c : Int} (h : XC v c) : ∀ hE : H, callω fns 65 [v] hE = some (.int .i64 c, hE) := by
  intro hE
  cases h with
  | nil =>
    refine run65 (Nat.le_of_ble_eq_true rfl) ?_
    simp
  | few a b =>
    refine run65 (Nat.le_of_ble_eq_true rfl) ?_
    simp [xFew, taOk, exV]

theorem l_Elements {o : Option (List UInt8)} : ∀ (f : Nat) (n : Int) (l : List UInt8) (pre : RS) (st : St), st.s 0 = bAV 5 o → st.s 4 = .int .i32 n → st.s 5 = bAV 5 (some l) → st.s 8 = pre.av 108 1 →
    l.length < f → l.length < 2147483648 → -2147483648 ≤ n → n < 2147483648 → pre.l.length + l.length < 2147483648 → ∀ Q : Ex × St → Prop,
    ((elemsR f n l).2 = true → ∀ st' : St, st'.h = st.h → st'.s 8 = (pre.app (rowsC 5 (elemsR f n l).1)).av 108 1 → Q (.exit 0, st')) →
    ((elemsR f n l).2 = false → ∀ st' : St, st'.h = st.h → st'.s 2 = (pre.app (rowsC 5 (elemsR f n l).1)).av 108 1 → st'.s 3 = xFew (elemsE eDat o f n l).1 (elemsE eDat o f n l).2 → Q (.ret, st')) → LoopR fns lc80_0 st Q
  | 0, n, l, pre, st, h0, h4, h5, h8, hf, hl, hn0, hn1, hp, Q, hA, hB => by omega
  | f + 1, n, l, pre, st, h0, h4, h5, h8, hf, hl, hn0, hn1, hp, Q, hA, hB => by
    refine loopω_run fns ?_
    by_cases hn : n ≤ 1
    · have g : ¬ (1 < n) := by omega
      simp only [elemsR, hn, if_true] at hA
      simp [h4, g]
      refine hA (by simp) _ ?_ ?_ <;> simp [h8, RS.app_nil]
    · have g : 1 < n := by omega
      have hr := c_ReadElement l hl
      cases he : eGet l with
      | none =>
        have e : eRes l = .tup [bAV 5 none, bAV 5 (some l), .bool false] := by simp [eRes, he]
        rw [e] at hr
        have hi := c_NewIBE o (some l)
        simp only [elemsR, elemsE, hn, if_false, he] at hB
        have w0 : IntKind.i32.wrap 0 = 0 := rfl
        have w1 : IntKind.i32.wrap n = n := i32_small hn0 hn1
        simp [xFew, h0, h4, h5, h8, g, hr, hi, mk_few, ex3_0, ex3_1, ex3_2, bl, w0, w1]
        refine hB (by simp) _ ?_ ?_ ?_ <;> simp [RS.app_nil, xFew]
      | some m =>
        have hm := eGet_le he
        have e : eRes l = .tup [bAV 5 (some (l.take m)), bAV 5 (some (l.drop m)), .bool true] := by simp [eRes, he]
        rw [e] at hr
        have hv := c_ElemV he hl
        have hX : (l.take m).length = m := by simp; omega
        have hY : (l.drop m).length = l.length - m := by simp
        have w0 : IntKind.i32.wrap (m : Int) = m := i32_small (by omega) (by omega)
        have w1 : IntKind.i32.wrap (n - m) = n - m := i32_small (by omega) (by omega)
        simp only [elemsR, elemsE, hn, if_false, he] at hA hB
        cases hk : eOk (l.take m) with
        | false =>
          simp only [hk, Bool.false_eq_true, if_false, xFew] at hv hB
          generalize l.take m = X at *
          generalize eDat X = d at *
          simp [xFew, h0, h4, h5, h8, g, hr, hv, ex3_0, ex3_1, ex3_2, bl, hX, w0, w1]
          refine hB (by simp) _ ?_ ?_ ?_ <;> simp [RS.app_nil, xFew]
        | true =>
          simp only [hk, if_true] at hv hA hB
          generalize l.take m = X at *
          have ha : ∀ hp : H, apV hp 108 1 24 false (pre.av 108 1) (.slice (.own true) 108 1 [bAV 5 (some X)]) = some ((pre.app [bAV 5 (some X)]).av 108 1) := fun hp =>
            RS.apV (by simp only [List.length_singleton, Nat.div_one, tooLong]; omega) (by simp only [List.length_singleton, tooLong]; omega)
          simp [xFew, h0, h4, h5, h8, g, hr, hv, ex3_0, ex3_1, ex3_2, bl, hX, w0, w1, ha]
          refine l_Elements (o := o) f (n - m) (l.drop m) (pre.app [bAV 5 (some X)]) _ ?_ ?_ ?_ ?_ ?_ ?_ (by omega) (by omega) ?_ Q (fun hb st' k1 k2 => hA hb st' ?_ ?_) (fun hb st' k1 k2 k3 => hB hb st' ?_ ?_ ?_)
          · simp [h0]
          · simp
          · simp
          · simp
          · omega
          · omega
          · rw [RS.l_app]; simp only [List.length_append, List.length_singleton]; omega
          · rw [k1]
          · rw [k2, RS.app_app]; rfl
          · rw [k1]
          · rw [k2, RS.app_app]; rfl
          · exact k3

theorem rest4_some {l : List UInt8} (h : 4 ≤ l.length) : rest4 (some l) = some (l.drop 4) := by
  match l, h with
  | _ :: _ :: _ :: _ :: r, _ => rfl
def dR (l : List UInt8) : List (List UInt8) × Bool := elemsR (l.length + 1) (num32 l - 4) (l.drop 4)
def dE (inv : List UInt8 → Option (List UInt8)) (l : List UInt8) : Option (List UInt8) × Option (List UInt8) := elemsE inv (some l) (l.length + 1) (num32 l - 4) (l.drop 4)
theorem c_Elements (l : List UInt8) (hl : l.length < 2147483648) : ∀ hE : H, callω fns 80 [bAV 5 (some l)] hE =
    some (if okL l then .tup [(RS.mk (rowsC 5 (dR l).1)).av 108 1, if (dR l).2 then .nilI else xFew (dE eDat l).1 (dE eDat l).2] else .tup [.slice .nil 0 1 [], xFew (some l) (rest4 (some l))], hE) := by
  intro hE
  have hR := c_RLen (some l)
  simp only [bl] at hR
  by_cases hk : okL l = true
  case neg =>
    simp only [Bool.not_eq_true] at hk
    have hi := c_NewIBE (some l) (rest4 (some l))
    rw [hk] at hR
    generalize rest4 (some l) = R at *
    refine run80 (Nat.le_of_ble_eq_true rfl) ?_
    simp [hR, hk, hi, xFew, mkI, ex3_0, ex3_1, ex3_2]
  case pos =>
    obtain ⟨h4, h0⟩ := okL_le hk
    rw [hk, rest4_some h4] at hR
    have hr := num32_range l
    have w : IntKind.i32.wrap (num32 l - 4) = num32 l - 4 := i32_small (by omega) (by omega)
    have hd : (l.drop 4).length = l.length - 4 := by simp
    rw [if_pos hk]
    unfold dR dE
    generalize hN : num32 l = N at *
    generalize hL : l.drop 4 = L at *
    refine run80 (Nat.le_of_ble_eq_true rfl) ?_
    simp [hR, w, ex3_0, ex3_1, ex3_2]
    refine l_Elements (o := some l) (l.length + 1) (N - 4) L RS.nil _ ?_ ?_ ?_ ?_ (by omega) (by omega) (by omega) (by omega) ?_ _ (fun hb st' k1 k2 => ?_) (fun hb st' k1 k2 k3 => ?_)
    · simp
    · simp
    · simp
    · simp [RS.av]
    · simp [RS.l]; omega
    · simp [k1, k2, hb, RS.nil_app]
    · simp only [xFew] at k3
      simp [k1, k2, k3, hb, RS.nil_app, xFew]
end Go.Proofs.YtcodfehgnjplcaaGreatDoor.Abs

/- Documents of any bytes: values, the element with a number; whether they are valid; codes of errors. -/
namespace Go.Proofs.YtcodfehgnjplcaaGreatDoor.Abs
set_option linter.all false
open Go.Proofs
set_option linter.unusedVariables false
set_option linter.unusedSimpArgs false
set_option maxRecDepth 100000
set_option maxHeartbeats 8000000

theorem eVal_ok {l : List UInt8} {m : Nat} (h : eGet l = some m) (hk : eOk (l.take m) = true) : eVal (l.take m) = .agg (kvC 5 (l.take m)) ∧ (vGet (kv (l.take m)).1 (kv (l.take m)).2).isSome = true := by
  obtain ⟨t, r, i, n, rfl, hn, hv, rfl, hle, hp⟩ := eParts_take h
  unfold eOk at hk
  simp only [hp] at hk
  cases hg : vGet (t.toNat : Int) ((r.drop (i + 1)).take n) with
  | none => rw [hg] at hk; cases hk
  | some q =>
    have hq := vGet_cut hv (by rw [List.length_drop]; omega) hg
    subst hq
    unfold eVal kvC kv
    simp only [hp, hg, Option.isSome_some, if_true, vData, bl, Option.map_some, List.take_take, Nat.min_self]
    exact ⟨trivial, trivial⟩
theorem eVal_no {l : List UInt8} {m : Nat} (h : eGet l = some m) (hk : eOk (l.take m) = false) : eVal (l.take m) = .agg [.int .u8 0, bAV 5 none] := by
  obtain ⟨t, r, i, n, rfl, hn, hv, rfl, hle, hp⟩ := eParts_take h
  unfold eOk at hk
  simp only [hp] at hk
  unfold eVal
  simp only [hp, hk, Bool.false_eq_true, if_false]
theorem vGet0 : vGet 0 [] = none := rfl

theorem l_values {o : Option (List UInt8)} : ∀ (f : Nat) (n : Int) (l : List UInt8) (pre : RS) (st : St), st.s 0 = bAV 5 o → st.s 4 = .int .i32 n → st.s 5 = bAV 5 (some l) → st.s 8 = pre.av 102 2 →
    l.length < f → l.length < 2147483648 → -2147483648 ≤ n → n < 2147483648 → pre.l.length + 2 * l.length < 6442450944 → ∀ Q : Ex × St → Prop,
    ((elemsR f n l).2 = true → ∀ st' : St, st'.h = st.h → st'.s 8 = (pre.app (valsC 5 (elemsR f n l).1)).av 102 2 → Q (.exit 0, st')) →
    ((elemsR f n l).2 = false → ∀ st' : St, st'.h = st.h → st'.s 2 = (pre.app (valsC 5 (elemsR f n l).1)).av 102 2 → st'.s 3 = xFew (elemsE (fun _ => none) o f n l).1 (elemsE (fun _ => none) o f n l).2 → Q (.ret, st')) → LoopR fns lc168_0 st Q
  | 0, n, l, pre, st, h0, h4, h5, h8, hf, hl, hn0, hn1, hp, Q, hA, hB => by omega
  | f + 1, n, l, pre, st, h0, h4, h5, h8, hf, hl, hn0, hn1, hp, Q, hA, hB => by
    refine loopω_run fns ?_
    by_cases hn : n ≤ 1
    · have g : ¬ (1 < n) := by omega
      simp only [elemsR, hn, if_true] at hA
      simp [h4, g]
      refine hA (by simp) _ ?_ ?_ <;> simp [h8, RS.app_nil, valsC]
    · have g : 1 < n := by omega
      have hr := c_ReadElement l hl
      cases he : eGet l with
      | none =>
        have e : eRes l = .tup [bAV 5 none, bAV 5 (some l), .bool false] := by simp [eRes, he]
        rw [e] at hr
        have hi := c_NewIBE o (some l)
        simp only [elemsR, elemsE, hn, if_false, he] at hB
        have w0 : IntKind.i32.wrap 0 = 0 := rfl
        have w1 : IntKind.i32.wrap n = n := i32_small hn0 hn1
        simp [xFew, h0, h4, h5, h8, g, hr, hi, mk_few, ex3_0, ex3_1, ex3_2, bl, w0, w1]
        refine hB (by simp) _ ?_ ?_ ?_ <;> simp [RS.app_nil, xFew, valsC]
      | some m =>
        have hm := eGet_le he
        have e : eRes l = .tup [bAV 5 (some (l.take m)), bAV 5 (some (l.drop m)), .bool true] := by simp [eRes, he]
        rw [e] at hr
        have hX : (l.take m).length = m := by simp; omega
        have hY : (l.drop m).length = l.length - m := by simp
        have w0 : IntKind.i32.wrap (m : Int) = m := i32_small (by omega) (by omega)
        have w1 : IntKind.i32.wrap (n - m) = n - m := i32_small (by omega) (by omega)
        simp only [elemsR, elemsE, hn, if_false, he] at hA hB
        have hev := c_ElemValue (l.take m) (by omega)
        cases hk : eOk (l.take m) with
        | false =>
          have hv := c_ValValidate 0 none (by simp [bl])
          rw [eVal_no he hk] at hev
          have hx : xVal 0 none = xFew none none := by simp [xVal, bl, vGet0]
          rw [hx] at hv
          simp only [hk, Bool.false_eq_true, if_false, xFew] at hv hB
          generalize l.take m = X at *
          simp [xFew, h0, h4, h5, h8, g, hr, hev, hv, ex3_0, ex3_1, ex3_2, bl, hX, w0, w1]
          refine hB (by simp) _ ?_ ?_ ?_ <;> simp [RS.app_nil, xFew, valsC]
        | true =>
          obtain ⟨e1, e2⟩ := eVal_ok he hk
          rw [e1] at hev
          simp only [hk, if_true] at hA hB
          generalize l.take m = X at *
          have hkl : (kv X).2.length < 2147483648 := by
            have : (kv X).2.length ≤ X.length := by
              unfold kv
              cases X with
              | nil => simp [eParts]
              | cons t r =>
                simp only [eParts]
                cases nul r with
                | none => simp
                | some i => simp; omega
            omega
          have hv := c_ValValidate (kv X).1 (some (kv X).2) hkl
          have hx : xVal (kv X).1 (some (kv X).2) = .nilI := by simp [xVal, bl, e2]
          rw [hx] at hv
          have ha : ∀ hp : H, apV hp 102 2 32 false (pre.av 102 2) (.slice (.own true) 102 2 [.int .u8 (kv X).1, bAV 5 (some (kv X).2)]) = some ((pre.app [.int .u8 (kv X).1, bAV 5 (some (kv X).2)]).av 102 2) := fun hp =>
            RS.apV (by simp only [List.length_cons, List.length_nil, tooLong]; omega) (by simp only [List.length_cons, List.length_nil, tooLong]; omega)
          simp only [kvC] at hev
          have hvc : ∀ es, valsC 5 (X :: es) = [.int .u8 (kv X).1, bAV 5 (some (kv X).2)] ++ valsC 5 es := fun _ => rfl
          generalize (kv X).1 = K at *
          generalize (kv X).2 = D at *
          simp [h0, h4, h5, h8, g, hr, hev, hv, ex3_0, ex3_1, ex3_2, bl, hX, w0, w1, ha]
          refine l_values (o := o) f (n - m) (l.drop m) (pre.app [.int .u8 K, bAV 5 (some D)]) _ ?_ ?_ ?_ ?_ ?_ ?_ (by omega) (by omega) ?_ Q (fun hb st' k1 k2 => hA hb st' ?_ ?_) (fun hb st' k1 k2 k3 => hB hb st' ?_ ?_ ?_)
          · simp [h0]
          · simp
          · simp
          · simp
          · omega
          · omega
          · rw [RS.l_app]; simp only [List.length_append, List.length_cons, List.length_nil]; omega
          · rw [k1]
          · rw [k2, RS.app_app, hvc]
          · rw [k1]
          · rw [k2, RS.app_app, hvc]
          · exact k3
theorem c_values (l : List UInt8) (hl : l.length < 2147483648) : ∀ hE : H, callω fns 168 [bAV 5 (some l)] hE =
    some (if okL l then .tup [(RS.mk (valsC 5 (dR l).1)).av 102 2, if (dR l).2 then .nilI else xFew (dE (fun _ => none) l).1 (dE (fun _ => none) l).2] else .tup [.slice .nil 0 1 [], xFew (some l) (rest4 (some l))], hE) := by
  intro hE
  have hR := c_RLen (some l)
  simp only [bl] at hR
  by_cases hk : okL l = true
  case neg =>
    simp only [Bool.not_eq_true] at hk
    have hi := c_NewIBE (some l) (rest4 (some l))
    rw [hk] at hR
    generalize rest4 (some l) = R at *
    refine run168 (Nat.le_of_ble_eq_true rfl) ?_
    simp [hR, hk, hi, xFew, mkI, ex3_0, ex3_1, ex3_2]
  case pos =>
    obtain ⟨h4, h0⟩ := okL_le hk
    rw [hk, rest4_some h4] at hR
    have hr := num32_range l
    have w : IntKind.i32.wrap (num32 l - 4) = num32 l - 4 := i32_small (by omega) (by omega)
    have hd : (l.drop 4).length = l.length - 4 := by simp
    rw [if_pos hk]
    unfold dR dE
    generalize hN : num32 l = N at *
    generalize hL : l.drop 4 = L at *
    refine run168 (Nat.le_of_ble_eq_true rfl) ?_
    simp [hR, w, ex3_0, ex3_1, ex3_2]
    refine l_values (o := some l) (l.length + 1) (N - 4) L RS.nil _ ?_ ?_ ?_ ?_ (by omega) (by omega) (by omega) (by omega) ?_ _ (fun hb st' k1 k2 => ?_) (fun hb st' k1 k2 k3 => ?_)
    · simp
    · simp
    · simp
    · simp [RS.av]
    · simp [RS.l]; omega
    · simp [k1, k2, hb, RS.nil_app]
    · simp only [xFew] at k3
      simp [k1, k2, k3, hb, RS.nil_app, xFew]

/-! ### Whether it is valid -/
def sLen : List UInt8 := [100, 111, 99, 117, 109, 101, 110, 116, 32, 111, 114, 32, 97, 114, 114, 97, 121, 32, 108, 101, 110, 103, 116, 104, 32, 105, 115, 32, 105, 110, 118, 97, 108, 105, 100]
def sNull : List UInt8 := [100, 111, 99, 117, 109, 101, 110, 116, 32, 111, 114, 32, 97, 114, 114, 97, 121, 32, 101, 110, 100, 32, 105, 115, 32, 109, 105, 115, 115, 105, 110, 103, 32, 110, 117, 108, 108, 32, 98, 121, 116, 101]
def xVE (s : List UInt8) : AV := .iface 240 (.str s)
def endX : List UInt8 → AV
  | [] => xVE sNull
  | c :: _ => if c = 0 then .nilI else xVE sNull
theorem l_Validate {o : Option (List UInt8)} : ∀ (f : Nat) (n : Int) (l : List UInt8) (st : St), st.s 0 = bAV 5 o → st.s 3 = .int .i32 n → st.s 4 = bAV 5 (some l) →
    l.length < f → l.length < 2147483648 → -2147483648 ≤ n → n < 2147483648 → ∀ Q : Ex × St → Prop,
    ((elemsR f n l).2 = true → ∀ st' : St, st'.h = st.h → st'.s 4 = bAV 5 (some (elemsT f n l)) → Q (.exit 0, st')) →
    ((elemsR f n l).2 = false → ∀ st' : St, st'.h = st.h → st'.s 2 = xFew (elemsE eDat o f n l).1 (elemsE eDat o f n l).2 → Q (.ret, st')) → LoopR fns lc162_0 st Q
  | 0, n, l, st, h0, h4, h5, hf, hl, hn0, hn1, Q, hA, hB => by omega
  | f + 1, n, l, st, h0, h4, h5, hf, hl, hn0, hn1, Q, hA, hB => by
    refine loopω_run fns ?_
    by_cases hn : n ≤ 1
    · have g : ¬ (1 < n) := by omega
      simp only [elemsR, elemsT, hn, if_true] at hA
      simp [h4, g]
      refine hA (by simp) _ ?_ ?_ <;> simp [h5]
    · have g : 1 < n := by omega
      have hr := c_ReadElement l hl
      cases he : eGet l with
      | none =>
        have e : eRes l = .tup [bAV 5 none, bAV 5 (some l), .bool false] := by simp [eRes, he]
        rw [e] at hr
        have hi := c_NewIBE o (some l)
        simp only [elemsR, elemsE, hn, if_false, he] at hB
        have w0 : IntKind.i32.wrap 0 = 0 := rfl
        have w1 : IntKind.i32.wrap n = n := i32_small hn0 hn1
        simp [xFew, h0, h4, h5, g, hr, hi, mk_few, ex3_0, ex3_1, ex3_2, bl, w0, w1]
        refine hB (by simp) _ ?_ ?_ <;> simp [xFew]
      | some m =>
        have hm := eGet_le he
        have e : eRes l = .tup [bAV 5 (some (l.take m)), bAV 5 (some (l.drop m)), .bool true] := by simp [eRes, he]
        rw [e] at hr
        have hv := c_ElemV he hl
        have hX : (l.take m).length = m := by simp; omega
        have hY : (l.drop m).length = l.length - m := by simp
        have w0 : IntKind.i32.wrap (m : Int) = m := i32_small (by omega) (by omega)
        have w1 : IntKind.i32.wrap (n - m) = n - m := i32_small (by omega) (by omega)
        simp only [elemsR, elemsE, elemsT, hn, if_false, he] at hA hB
        cases hk : eOk (l.take m) with
        | false =>
          simp only [hk, Bool.false_eq_true, if_false, xFew] at hv hB
          generalize l.take m = X at *
          generalize eDat X = d at *
          simp [xFew, h0, h4, h5, g, hr, hv, ex3_0, ex3_1, ex3_2, bl, hX, w0, w1]
          refine hB (by simp) _ ?_ ?_ <;> simp [xFew]
        | true =>
          simp only [hk, if_true] at hv hA hB
          generalize l.take m = X at *
          simp [h0, h4, h5, g, hr, hv, ex3_0, ex3_1, ex3_2, bl, hX, w0, w1]
          refine l_Validate (o := o) f (n - m) (l.drop m) _ ?_ ?_ ?_ ?_ ?_ (by omega) (by omega) Q (fun hb st' k1 k2 => hA hb st' ?_ ?_) (fun hb st' k1 k2 => hB hb st' ?_ ?_)
          · simp [h0]
          · simp
          · simp
          · omega
          · omega
          · rw [k1]
          · exact k2
          · rw [k1]
          · exact k2
def docX (l : List UInt8) : AV :=
  if okL l = false then xFew (some l) (rest4 (some l)) else if (l.length : Int) < num32 l then xVE [100, 111, 99, 117, 109, 101, 110, 116, 32, 108, 101, 110, 103, 116, 104, 32, 101, 120, 99, 101, 101, 100, 115, 32, 97, 118, 97, 105, 108, 97, 98, 108, 101, 32, 98, 121, 116, 101, 115]
  else if num32 l < 5 then xVE sLen else if (l[(num32 l - 1).toNat]?) ≠ some 0 then xVE sNull
  else if (dR l).2 = false then xFew (dE eDat l).1 (dE eDat l).2 else endX (elemsT (l.length + 1) (num32 l - 4) (l.drop 4))
theorem c_lenErr (a b : Int) : ∀ hE : H, callω fns 219 [.int .i64 a, .int .i64 b] hE = some (xVE [100, 111, 99, 117, 109, 101, 110, 116, 32, 108, 101, 110, 103, 116, 104, 32, 101, 120, 99, 101, 101, 100, 115, 32, 97, 118, 97, 105, 108, 97, 98, 108, 101, 32, 98, 121, 116, 101, 115], hE) := by
  intro hE
  have h1 : ∀ hE : H, callω fns 260 [.str [100, 111, 99, 117, 109, 101, 110, 116], .int .i64 a, .int .i64 b] hE = some (xVE [100, 111, 99, 117, 109, 101, 110, 116, 32, 108, 101, 110, 103, 116, 104, 32, 101, 120, 99, 101, 101, 100, 115, 32, 97, 118, 97, 105, 108, 97, 98, 108, 101, 32, 98, 121, 116, 101, 115], hE) := by
    intro hE
    refine run260 (Nat.le_of_ble_eq_true rfl) ?_
    simp [mkI, xVE, maxLen]
  refine run219 (Nat.le_of_ble_eq_true rfl) ?_
  simp [h1, xVE]
theorem c_DocValidate (l : List UInt8) (hl : l.length < 2147483648) : ∀ hE : H, callω fns 162 [bAV 5 (some l)] hE = some (docX l, hE) := by
  intro hE
  have hR := c_RLen (some l)
  simp only [bl] at hR
  unfold docX
  by_cases hk : okL l = true
  case neg =>
    simp only [Bool.not_eq_true] at hk
    have hi := c_NewIBE (some l) (rest4 (some l))
    rw [hk] at hR
    generalize rest4 (some l) = R at *
    refine run162 (Nat.le_of_ble_eq_true rfl) ?_
    simp [hR, hk, hi, xFew, mkI, ex3_0, ex3_1, ex3_2]
  case pos =>
    obtain ⟨h4, h0⟩ := okL_le hk
    rw [hk, rest4_some h4] at hR
    have hr := num32_range l
    have w : IntKind.i32.wrap (num32 l - 4) = num32 l - 4 := i32_small (by omega) (by omega)
    have w64 : IntKind.i64.wrap (num32 l) = num32 l := wrap_i64 (by omega) (by omega)
    have w1 : IntKind.i32.wrap (num32 l - 1) = num32 l - 1 := i32_small (by omega) (by omega)
    have hd : (l.drop 4).length = l.length - 4 := by simp
    have hle := c_lenErr (num32 l) l.length
    have hk' : ¬ (okL l = false) := by simp [hk]
    rw [if_neg hk']
    refine run162 (Nat.le_of_ble_eq_true rfl) ?_
    by_cases c1 : (l.length : Int) < num32 l
    · rw [if_pos c1]
      generalize num32 l = N at *
      generalize l.drop 4 = L at *
      simp only [xVE] at hle
      simp [hR, w64, ex3_0, ex3_1, ex3_2, bl, c1, hle, xVE]
    rw [if_neg c1]
    by_cases c2 : num32 l < 5
    · rw [if_pos c2]
      generalize num32 l = N at *
      generalize l.drop 4 = L at *
      simp [hR, w64, ex3_0, ex3_1, ex3_2, bl, c1, c2, mkI, xVE, sLen]
    rw [if_neg c2]
    have hlt : (num32 l - 1).toNat < l.length := by omega
    have hix : ixV 1 (bAV 5 (some l)) (.int .i32 (((num32 l - 1).toNat : Nat) : Int)) = some (.eptr (.int .u8 (l[(num32 l - 1).toNat].toNat : Int) :: byteCells (l.drop ((num32 l - 1).toNat + 1)))) := bAV_at (e := 5) hlt
    have ei : (((num32 l - 1).toNat : Nat) : Int) = num32 l - 1 := by omega
    rw [ei] at hix
    rw [List.getElem?_eq_getElem hlt]
    generalize l[(num32 l - 1).toNat] = c at *
    by_cases c3 : c = 0
    case neg =>
      have c3' : ¬ c.toNat = 0 := fun e => c3 (UInt8.toNat_inj.1 e)
      rw [if_pos (by simp [c3])]
      generalize num32 l = N at *
      generalize l.drop 4 = L at *
      simp [hR, w64, w1, ex3_0, ex3_1, ex3_2, bl, c1, c2, hix, c3', mkI, xVE, sNull]
    subst c3
    rw [if_neg (by simp)]
    unfold dR dE
    generalize hN : num32 l = N at *
    generalize hL : l.drop 4 = L at *
    simp [hR, w64, w1, w, ex3_0, ex3_1, ex3_2, bl, c1, c2, hix]
    refine l_Validate (o := some l) (l.length + 1) (N - 4) L _ ?_ ?_ ?_ (by omega) (by omega) (by omega) (by omega) _ (fun hb st' k1 k2 => ?_) (fun hb st' k1 k2 => ?_)
    · simp
    · simp
    · simp
    · generalize elemsT (l.length + 1) (N - 4) L = T at *
      cases T with
      | nil => simp [k1, k2, hb, endX, bl, mkI, xVE, sNull, pkV, AV.several]
      | cons c r =>
        have g : ¬ ((r.length : Int) + 1 < 1) := by omega
        by_cases hc : c = 0
        · have hc' : c.toNat = 0 := by rw [hc]; rfl
          simp [k1, k2, hb, endX, bl, hc, g, ix_head, pkV, AV.several]
        · have hc' : ¬ c.toNat = 0 := fun e => hc (UInt8.toNat_inj.1 e)
          simp [k1, k2, hb, endX, bl, hc, hc', g, ix_head, mkI, xVE, sNull, pkV, AV.several]
    · simp only [xFew] at k2
      simp [k1, k2, hb, xFew]
end Go.Proofs.YtcodfehgnjplcaaGreatDoor.Abs

/- Sentinels; the codes of errors; what is copied. -/
namespace Go.Proofs.YtcodfehgnjplcaaGreatDoor.Abs
set_option linter.all false
open Go.Proofs
set_option linter.unusedVariables false
set_option linter.unusedSimpArgs false
set_option maxRecDepth 100000
set_option maxHeartbeats 8000000

/-! ### Sentinels -/
def sE (p : Nat × Nat) : AV := .iface 298 (.sen p.1 p.2)
structure Sens (Γ : Nat → Option (List AV)) (s : Nat → Nat × Nat) : Prop where
  g0 : Γ 0 = some [sE (s 0)]
  g1 : Γ 1 = some [sE (s 1)]
  g2 : Γ 2 = some [sE (s 2)]
  g3 : Γ 3 = some [sE (s 3)]
  ne : ∀ i j, i < 4 → j < 4 → i ≠ j → s i ≠ s j
theorem c_Is (a b : Nat × Nat) (hE : H) : callω fns 165 [sE a, sE b] hE = some (.bool (decide (a = b)), hE) := by
  refine callω_x fns (af := af165) rfl (Nat.le_of_ble_eq_true rfl) ?_
  show isX [sE a, sE b] = _
  obtain ⟨a1, a2⟩ := a
  obtain ⟨b1, b2⟩ := b
  simp only [isX, sE, and_self, if_true, Prod.mk.injEq]
  congr 2
  by_cases h1 : a1 = b1 <;> by_cases h2 : a2 = b2 <;> simp [h1, h2]
def senC (i : Nat) : Int := if i = 0 then 7 else if i = 1 then 7 else if i = 2 then 8 else 11
theorem c_code_sen {s : Nat → Nat × Nat} {i : Nat} (hi : i < 4) {hE : H} (hS : Sens hE.Γ s) : callω fns 65 [sE (s i)] hE = some (.int .i64 (senC i), hE) := by
  obtain ⟨g0, g1, g2, g3, ne⟩ := hS
  refine run65 (Nat.le_of_ble_eq_true rfl) ?_
  have hI := c_Is
  have q : ∀ j, j < 4 → (decide (s i = s j)) = decide (i = j) := fun j hj => by
    by_cases h : i = j
    · subst h; simp
    · simp [h, ne i j hi hj h]
  have q0 := q 0 (by omega); have q1 := q 1 (by omega); have q2 := q 2 (by omega); have q3 := q 3 (by omega)
  have e : ∀ p, sE p = .iface 298 (.sen p.1 p.2) := fun _ => rfl
  simp only [e] at hI g0 g1 g2 g3 ⊢
  rcases (by omega : i = 0 ∨ i = 1 ∨ i = 2 ∨ i = 3) with rfl | rfl | rfl | rfl <;>
    simp only [Nat.reduceEqDiff, decide_true, decide_false] at q0 q1 q2 q3 <;>
    simp [taOk, exV, g0, g1, g2, g3, glV, hI, q0, q1, q2, q3, senC]
theorem c_code_nil : ∀ hE : H, callω fns 65 [.nilI] hE = some (.int .i64 0, hE) := c_code .nil
theorem c_code_few (a b) : ∀ hE : H, callω fns 65 [xFew a b] hE = some (.int .i64 1, hE) := c_code (.few a b)
theorem c_code_V (s : List UInt8) : ∀ hE : H, callω fns 65 [xVE s] hE = some (.int .i64 (if s = sLen then 2 else if s = sNull then 3 else 4), hE) := by
  intro hE
  refine run65 (Nat.le_of_ble_eq_true rfl) ?_
  by_cases h1 : s = sLen
  · simp [xVE, h1, taOk, exV, sLen]
  by_cases h2 : s = sNull
  · simp [xVE, h1, h2, taOk, exV, sLen, sNull]
  have h1' : (s == sLen) = false := by simpa using h1
  have h2' : (s == sNull) = false := by simpa using h2
  simp only [sLen] at h1 h1'
  simp only [sNull] at h2 h2'
  simp [xVE, h1, h2, h1', h2', taOk, exV, sLen, sNull]

def docC (l : List UInt8) : Int :=
  if okL l = false then 1 else if (l.length : Int) < num32 l then 4 else if num32 l < 5 then 2 else if (l[(num32 l - 1).toNat]?) ≠ some 0 then 3
  else if (dR l).2 = false then 1 else match elemsT (l.length + 1) (num32 l - 4) (l.drop 4) with | [] => 3 | c :: _ => if c = 0 then 0 else 3
theorem c_code_doc (l : List UInt8) : ∀ hE : H, callω fns 65 [docX l] hE = some (.int .i64 (docC l), hE) := by
  intro hE
  unfold docX docC
  split
  · exact c_code_few _ _ hE
  split
  · rw [c_code_V]; rfl
  split
  · rw [c_code_V]; rfl
  split
  · rw [c_code_V]; rfl
  split
  · exact c_code_few _ _ hE
  cases elemsT (l.length + 1) (num32 l - 4) (l.drop 4) with
  | nil => simp only [endX]; rw [c_code_V]; rfl
  | cons c r =>
    simp only [endX]
    split
    · exact c_code_nil hE
    · rw [c_code_V]; rfl
theorem docX_cases (l : List UInt8) : docX l = .nilI ∨ (∃ a b, docX l = xFew a b) ∨ ∃ s, docX l = xVE s := by
  unfold docX
  split
  · exact .inr (.inl ⟨_, _, rfl⟩)
  split
  · exact .inr (.inr ⟨_, rfl⟩)
  split
  · exact .inr (.inr ⟨_, rfl⟩)
  split
  · exact .inr (.inr ⟨_, rfl⟩)
  split
  · exact .inr (.inl ⟨_, _, rfl⟩)
  cases elemsT (l.length + 1) (num32 l - 4) (l.drop 4) with
  | nil => exact .inr (.inr ⟨_, rfl⟩)
  | cons c r =>
    simp only [endX]
    split
    · exact .inl rfl
    · exact .inr (.inr ⟨_, rfl⟩)
theorem c_own (o : Option (List UInt8)) (h : (bl o).length < 2147483648) : ∀ hE : H, callω fns 55 [bAV 5 o] hE = some ((BS.mk (bl o)).av 5, hE) := by
  intro hE
  have ha : ∀ hp : H, apV hp 5 1 1 false (.slice .nil 0 1 []) (bAV 5 o) = some ((BS.mk (bl o)).av 5) := fun hp => by
    have := apV_b (hp := hp) (e := 5) (b := BS.nil) (o := o) (by simp only [BS.l, List.length_nil, tooLong]; omega)
    rw [BS.nil_app] at this; exact this
  refine run55 (Nat.le_of_ble_eq_true rfl) ?_
  simp [ha]

end Go.Proofs.YtcodfehgnjplcaaGreatDoor.Abs

/- Right documents' bytes: what is read of them. -/
namespace Go.Proofs.YtcodfehgnjplcaaGreatDoor.Abs
set_option linter.all false

theorem num32_le32 {m : Int} {r : List UInt8} (h0 : -2147483648 ≤ m) (h1 : m < 2147483648) : num32 (le32 m ++ r) = m := by
  show rd32 _ _ _ _ = m
  exact rd32_le32 h0 h1
theorem lenD_le32 {m d : Int} {r : List UInt8} (h0 : 0 ≤ m) (hd : 0 ≤ d) (h1 : m + d < 2147483648) : lenD d (le32 m ++ r) = some (m + d).toNat := by
  unfold lenD
  rw [num32_le32 (by omega) (by omega), if_pos ⟨by simp [le32_length], h0, h1⟩]
theorem knownK_cases {k : Int} (h : knownK k = true) : k = 1 ∨ k = 2 ∨ k = 3 ∨ k = 4 ∨ k = 5 ∨ k = 6 ∨ k = 7 ∨ k = 8 ∨ k = 9 ∨ k = 10 ∨ k = 11 ∨ k = 12 ∨ k = 13 ∨ k = 14 ∨ k = 15 ∨ k = 16 ∨ k = 17 ∨ k = 18 ∨ k = 19 ∨ k = 127 ∨ k = 255 := by
  simp [knownK] at h; omega
theorem kind_range {v : Tr} {d : Nat} (h : v.right d = true) : 0 ≤ v.kind ∧ v.kind < 256 := by
  cases v with
  | mk k t m n bi hi bb kn ks =>
  simp only [Tr.right, Bool.and_eq_true] at h
  have := knownK_cases h.1
  simp only [Tr.kind]; omega
theorem rxLen_regex {t m r : List UInt8} (ht : plainL t = true) (hm : plainL m = true) : rxLen (t ++ (0 :: (m ++ [0])) ++ r) = some (t.length + m.length + 2) := by
  unfold rxLen
  rw [List.append_assoc, List.cons_append, nul_plain ht]
  have e : (t ++ 0 :: ((m ++ [0]) ++ r)).drop (t.length + 1) = m ++ 0 :: r := by
    rw [List.drop_append]
    simp
  simp only [Option.bind_some, e, nul_plain hm, Option.map_some]
  congr 1; omega
theorem vLen_val (v : Tr) {dd : Nat} (hR : v.right dd = true) (hs : v.sz ≤ 1000000000) (r : List UInt8) : vLen v.kind (v.val ++ r) = some v.val.length := by
  cases v with
  | mk k t m n bi hi bb kn ks =>
  simp only [Tr.right, Bool.and_eq_true] at hR
  obtain ⟨hk, hd, hbare, hR⟩ := hR
  have hb := Ks.body_le ks
  simp only [Tr.sz, Tr.nb, Tr.nodes] at hs
  have htl := txtL_length t
  simp only [Tr.kind]
  have txt : ∀ r : List UInt8, txtL t ++ r = le32 (t.length + 1) ++ (t ++ [0] ++ r) := fun r => by simp [txtL]
  have nat : ∀ {a : Int} {b : Nat}, a = b → some a.toNat = some b := fun h => by rw [h]; rfl
  rcases knownK_cases hk with rfl | rfl | rfl | rfl | rfl | rfl | rfl | rfl | rfl | rfl | rfl | rfl | rfl | rfl | rfl | rfl | rfl | rfl | rfl | rfl | rfl
  · rfl
  · have hv : (Tr.mk 2 t m n bi hi bb kn ks).val = txtL t := by simp [Tr.val]
    rw [hv]; show lenD 4 _ = _
    rw [txt, lenD_le32 (by omega) (by omega) (by omega)]; exact nat (by rw [htl]; omega)
  · have hv : (Tr.mk 3 t m n bi hi bb kn ks).val = le32 ((ks.body.length : Int) + 5) ++ (ks.body ++ [0]) := by simp [Tr.val]
    rw [hv]; show lenD 0 _ = _
    rw [List.append_assoc, lenD_le32 (by omega) (by omega) (by omega)]; exact nat (by simp [le32_length]; omega)
  · have hv : (Tr.mk 4 t m n bi hi bb kn ks).val = le32 ((ks.body.length : Int) + 5) ++ (ks.body ++ [0]) := by simp [Tr.val]
    rw [hv]; show lenD 0 _ = _
    rw [List.append_assoc, lenD_le32 (by omega) (by omega) (by omega)]; exact nat (by simp [le32_length]; omega)
  · by_cases n2 : n = 2
    · subst n2
      have hv : (Tr.mk 5 t m 2 bi hi bb kn ks).val = le32 (((bl bb).length : Int) + 4) ++ (2 :: (le32 (bl bb).length ++ bl bb)) := by simp [Tr.val]
      rw [hv]; show lenD 5 _ = _
      rw [List.append_assoc, lenD_le32 (by omega) (by omega) (by omega)]; exact nat (by simp [le32_length]; omega)
    · have hv : (Tr.mk 5 t m n bi hi bb kn ks).val = le32 ((bl bb).length : Int) ++ (byteOf n :: bl bb) := by simp [Tr.val, n2]
      rw [hv]; show lenD 5 _ = _
      rw [List.append_assoc, lenD_le32 (by omega) (by omega) (by omega)]; exact nat (by simp [le32_length]; omega)
  · rfl
  · simp only [Int.reduceEq, if_false, or_self, or_false, if_true, true_or, decide_eq_true_eq] at hR
    have hv : (Tr.mk 7 t m n bi hi bb kn ks).val = bl bb := by simp [Tr.val]
    rw [hv, hR]; rfl
  · rfl
  · rfl
  · rfl
  · simp at hR
    have hv : (Tr.mk 11 t m n bi hi bb kn ks).val = t ++ (0 :: (m ++ [0])) := by simp [Tr.val]
    rw [hv]; show rxLen _ = _
    rw [rxLen_regex hR.1 hR.2]; simp; omega
  · simp at hR
    have hv : (Tr.mk 12 t m n bi hi bb kn ks).val = txtL t ++ bl bb := by simp [Tr.val]
    rw [hv]; show lenD 16 _ = _
    rw [List.append_assoc, txt, lenD_le32 (by omega) (by omega) (by omega)]; exact nat (by rw [List.length_append, htl, hR]; omega)
  · have hv : (Tr.mk 13 t m n bi hi bb kn ks).val = txtL t := by simp [Tr.val]
    rw [hv]; show lenD 4 _ = _
    rw [txt, lenD_le32 (by omega) (by omega) (by omega)]; exact nat (by rw [htl]; omega)
  · have hv : (Tr.mk 14 t m n bi hi bb kn ks).val = txtL t := by simp [Tr.val]
    rw [hv]; show lenD 4 _ = _
    rw [txt, lenD_le32 (by omega) (by omega) (by omega)]; exact nat (by rw [htl]; omega)
  · have hv : (Tr.mk 15 t m n bi hi bb kn ks).val = le32 (4 + (txtL t).length + ((Ks.body ks).length + 5)) ++ (txtL t ++ (le32 ((Ks.body ks).length + 5) ++ (Ks.body ks ++ [0]))) := by simp [Tr.val]
    rw [hv]; show lenD 0 _ = _
    rw [List.append_assoc, lenD_le32 (by omega) (by omega) (by omega)]; exact nat (by simp [le32_length]; omega)
  · rfl
  · rfl
  · rfl
  · rfl
  · rfl
  · rfl
theorem val_four (v : Tr) (hk : v.kind = 3 ∨ v.kind = 4 ∨ v.kind = 15) : 4 ≤ v.val.length := by
  cases v with
  | mk k t m n bi hi bb kn ks =>
  simp only [Tr.kind] at hk
  rcases hk with rfl | rfl | rfl <;> simp [Tr.val, le32_length] <;> omega
theorem vGet_val (v : Tr) {dd : Nat} (hR : v.right dd = true) (hs : v.sz ≤ 1000000000) (r : List UInt8) : vGet v.kind (v.val ++ r) = some v.val.length := by
  simp only [vGet, vLen_val v hR hs r, Option.bind_some, List.length_append]
  rw [if_pos (by omega)]
theorem byteOf_kind {v : Tr} {dd : Nat} (hR : v.right dd = true) : ((byteOf v.kind).toNat : Int) = v.kind := by
  have := kind_range hR
  rw [byteOf_toNat]; omega
theorem elemL_length (nm : List UInt8) (v : Tr) : (elemL nm v).length = nm.length + 2 + v.val.length := by simp [elemL, hdL_length]
theorem elemL_eq (nm : List UInt8) (v : Tr) (r : List UInt8) : elemL nm v ++ r = byteOf v.kind :: (nm ++ 0 :: (v.val ++ r)) := by simp [elemL, hdL]
theorem eGet_elem {nm : List UInt8} {v : Tr} {dd : Nat} (hp : plainL nm = true) (hR : v.right dd = true) (hs : v.sz ≤ 1000000000) (r : List UInt8) : eGet (elemL nm v ++ r) = some (elemL nm v).length := by
  rw [elemL_eq, elemL_length]
  show (nul (nm ++ 0 :: (v.val ++ r))).bind _ = _
  rw [nul_plain hp]
  have e : (nm ++ 0 :: (v.val ++ r)).drop (nm.length + 1) = v.val ++ r := by rw [List.drop_append]; simp
  simp only [Option.bind_some, e, byteOf_kind hR, vLen_val v hR hs r]
  rw [if_pos (by simp; omega)]
theorem eParts_elem {nm : List UInt8} {v : Tr} (hp : plainL nm = true) : eParts (elemL nm v) = some (byteOf v.kind, nm, v.val) := by
  have h := elemL_eq nm v []
  rw [List.append_nil, List.append_nil] at h
  rw [h]
  show (nul (nm ++ 0 :: v.val)).map _ = _
  rw [nul_plain hp]
  simp
theorem eOk_elem {nm : List UInt8} {v : Tr} {dd : Nat} (hp : plainL nm = true) (hR : v.right dd = true) (hs : v.sz ≤ 1000000000) : eOk (elemL nm v) = true := by
  unfold eOk
  rw [eParts_elem hp]
  simp only [byteOf_kind hR]
  have := vGet_val v hR hs []
  rw [List.append_nil] at this
  rw [this]; rfl
theorem kv_elem {nm : List UInt8} {v : Tr} {dd : Nat} (hp : plainL nm = true) (hR : v.right dd = true) : kv (elemL nm v) = (v.kind, v.val) := by
  unfold kv
  rw [eParts_elem hp]
  simp only [byteOf_kind hR]

def Ks.good : Ks → Prop
  | .nil => True
  | .cons nm v r => plainL nm = true ∧ (∃ d, v.right d = true) ∧ Ks.good r
theorem Ks.right_good : ∀ {ks : Ks} {arr : Bool} {i d : Nat}, ks.right arr i d = true → ks.good
  | .nil, _, _, _, _ => trivial
  | .cons nm v r, arr, i, d, h => by
    simp only [Ks.right, Bool.and_eq_true] at h
    exact ⟨h.1, ⟨d, h.2.2.1⟩, Ks.right_good h.2.2.2⟩
theorem Ks.sz_cons (nm : List UInt8) (v : Tr) (r : Ks) : (Ks.cons nm v r).sz = nm.length + v.sz + r.sz := by simp only [Ks.sz, Tr.sz, Ks.nb, Ks.nodes]; omega
theorem elemsR_body : ∀ (ks : Ks) (f : Nat) (e : List UInt8), ks.good → ks.sz ≤ 1000000000 → ks.body.length < f → e.length ≤ 1 →
    elemsR f (ks.body.length + e.length : Nat) (ks.body ++ e) = (ks.elems, true) ∧ elemsT f (ks.body.length + e.length : Nat) (ks.body ++ e) = e ∧
    ∀ k, elemAt f (ks.body.length + e.length : Nat) (ks.body ++ e) k = (match ks.elems[k]? with | some x => (0, x) | none => (2, []))
  | .nil, f + 1, e, _, _, _, he => by
    simp only [Ks.body, List.length_nil, Nat.zero_add, List.nil_append, elemsR, elemsT, elemAt, Ks.elems]
    have : ((e.length : Nat) : Int) ≤ 1 := by omega
    rw [if_pos this, if_pos this]
    refine ⟨rfl, rfl, fun k => ?_⟩
    rw [if_pos this]; rfl
  | .cons nm v r, f + 1, e, hg, hs, hf, he => by
    obtain ⟨hp, ⟨d, hR⟩, hgr⟩ := hg
    rw [Ks.sz_cons] at hs
    have hb : (Ks.cons nm v r).body ++ e = elemL nm v ++ (r.body ++ e) := by simp [Ks.body, elemL, hdL]
    have hbl : (Ks.cons nm v r).body.length = (elemL nm v).length + r.body.length := by simp [Ks.body, elemL, hdL]; omega
    have hel := elemL_length nm v
    have hge := eGet_elem hp hR (by omega) (r.body ++ e)
    have hok := eOk_elem hp hR (by omega : v.sz ≤ 1000000000)
    have hn : ¬ (((Ks.cons nm v r).body.length + e.length : Nat) : Int) ≤ 1 := by omega
    have htk : (elemL nm v ++ (r.body ++ e)).take (elemL nm v).length = elemL nm v := by simp
    have hdr : (elemL nm v ++ (r.body ++ e)).drop (elemL nm v).length = r.body ++ e := by simp
    have hnn : ((((Ks.cons nm v r).body.length + e.length : Nat) : Int) - ((elemL nm v).length : Nat)) = ((r.body.length + e.length : Nat) : Int) := by omega
    obtain ⟨i1, i2, i3⟩ := elemsR_body r f e hgr (by omega) (by omega) he
    simp only [elemsR, elemsT, elemAt, hb]
    rw [if_neg hn, if_neg hn]
    simp only [hge, htk, hdr, hok, if_true, hnn, i1, i2, Ks.elems]
    refine ⟨trivial, trivial, fun k => ?_⟩
    rw [if_neg hn]
    cases k with
    | zero => rfl
    | succ k => simp only [i3]; rfl
  | ks, 0, e, _, _, hf, _ => by omega
theorem doc_num (ks : Ks) (hs : ks.sz ≤ 1000000000) : num32 ks.doc = ks.body.length + 5 ∧ ks.doc.drop 4 = ks.body ++ [0] := by
  have hb := Ks.body_le ks
  simp only [Ks.sz] at hs
  refine ⟨?_, rfl⟩
  unfold Ks.doc
  rw [num32_le32 (by omega) (by omega)]
end Go.Proofs.YtcodfehgnjplcaaGreatDoor.Abs
