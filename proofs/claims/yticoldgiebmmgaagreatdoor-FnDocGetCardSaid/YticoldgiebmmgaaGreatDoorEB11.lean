/- EB3, EB4, EB5, EB6, EB9, EB10, EB11 -/
import Derived.Test.YticoldgiebmmgaaGreatDoorEB2
import Derived.Test.YticoldgiebmmgaaGreatDoorTR9
/- Elements of any bytes: name, value, whether valid; errors and their codes. -/
namespace Go.Proofs.YticoldgiebmmgaaGreatDoor.Abs
set_option linter.all false
open Go.Proofs
set_option linter.unusedVariables false
set_option linter.unusedSimpArgs false
set_option maxRecDepth 100000
set_option maxHeartbeats 8000000

def sType : List UInt8 := [101, 108, 101, 109, 101, 110, 116, 32, 105, 115, 32, 109, 105, 115, 115, 105, 110, 103, 32, 116, 121, 112, 101]
def sKey : List UInt8 := [101, 108, 101, 109, 101, 110, 116, 32, 105, 115, 32, 109, 105, 115, 115, 105, 110, 103, 32, 107, 101, 121]
def xMal (l : List UInt8) : AV := .iface 185 (.str (if l = [] then sType else sKey))
theorem sl_tail {hp : H} {e : Nat} {t : UInt8} {r : List UInt8} : slSl hp 1 (bAV e (some (t :: r))) (some 1) (some ((r.length : Int) + 1)) = some (bAV e (some r)) := by
  have := sl_from (hp := hp) (e := e) (l := t :: r) (m := 1) (by simp)
  simpa using this
theorem ix_head {e : Nat} {t : UInt8} {r : List UInt8} : ixV 1 (bAV e (some (t :: r))) (.int .i64 0) = some (.eptr (.int .u8 (t.toNat : Int) :: byteCells r)) := by
  have := bAV_at (e := e) (l := t :: r) (k := 0) (by simp)
  simpa using this
theorem sl_mid {hp : H} {e : Nat} {t : UInt8} {r : List UInt8} {i : Nat} (h : i ≤ r.length) : slSl hp 1 (bAV e (some (t :: r))) (some 1) (some ((i : Int) + 1)) = some (bAV e (some (r.take i))) := by
  rw [sl_b (by omega) (by omega) (by simp; omega)]
  have e1 : ((i : Int) + 1).toNat = i + 1 := by omega
  rw [e1]; simp
theorem sl_past {hp : H} {e : Nat} {t : UInt8} {r : List UInt8} {i : Nat} (h : i < r.length) : slSl hp 1 (bAV e (some (t :: r))) (some ((i : Int) + 2)) (some ((r.length : Int) + 1)) = some (bAV e (some (r.drop (i + 1)))) := by
  have := sl_from (hp := hp) (e := e) (l := t :: r) (m := i + 2) (by simp; omega)
  simpa using this

theorem c_KeyBytesErr (l : List UInt8) (hl : l.length < 2147483648) : ∀ hE : H, callω fns 153 [bAV 5 (some l)] hE =
    some (match eParts l with | some (_, nm, _) => .tup [bAV 5 (some nm), .nilI] | none => .tup [bAV 5 none, xMal l], hE) := by
  intro hE
  have e0 : AV.slice .nil 0 1 [] = bAV 5 none := rfl
  refine run153 (Nat.le_of_ble_eq_true rfl) ?_
  cases l with
  | nil => simp [bl, eParts, mkI, xMal, sType, e0]
  | cons t r =>
    have g : ¬ ((r.length : Int) + 1 = 0) := by omega
    have hI := c_IndexNul (some r)
    simp only [bl] at hI
    cases hn : nul r with
    | none =>
      rw [hn] at hI
      simp [bl, g, sl_tail, hI, eParts, hn, mkI, xMal, sKey, e0]
    | some i =>
      rw [hn] at hI
      have hil := (nul_lt hn).1
      have g2 : ¬ ((i : Int) = -1) := by omega
      have w : IntKind.i64.wrap ((i : Int) + 1) = i + 1 := wrap_i64 (by omega) (by simp at hl; omega)
      have s := fun hp => sl_mid (hp := hp) (e := 5) (t := t) (r := r) (i := i) (by omega)
      simp [bl, g, sl_tail, hI, eParts, hn, g2, w, s]
theorem c_KeyErr (l : List UInt8) (hl : l.length < 2147483648) : ∀ hE : H, callω fns 154 [bAV 5 (some l)] hE =
    some (match eParts l with | some (_, nm, _) => .tup [.str nm, .nilI] | none => .tup [.str [], xMal l], hE) := by
  intro hE
  have h := c_KeyBytesErr l hl
  refine run154 (Nat.le_of_ble_eq_true rfl) ?_
  cases hp : eParts l with
  | none => rw [hp] at h; simp [h, ex2_0, ex2_1, xMal, bl]
  | some q => obtain ⟨k, nm, d⟩ := q; rw [hp] at h; simp [h, ex2_0, ex2_1, bl]
theorem c_KeyBytes (l : List UInt8) (hl : l.length < 2147483648) : ∀ hE : H, callω fns 112 [bAV 5 (some l)] hE =
    some (match eParts l with | some (_, nm, _) => bAV 5 (some nm) | none => bAV 5 none, hE) := by
  intro hE
  have h := c_KeyBytesErr l hl
  refine run112 (Nat.le_of_ble_eq_true rfl) ?_
  cases hp : eParts l with
  | none => rw [hp] at h; simp [h, ex2_0, ex2_1, xMal, bl]
  | some q => obtain ⟨k, nm, d⟩ := q; rw [hp] at h; simp [h, ex2_0, ex2_1, bl]

theorem c_ElemValidate (l : List UInt8) (hl : l.length < 2147483648) : ∀ hE : H, callω fns 120 [bAV 5 (some l)] hE =
    some (match eParts l with | some (k, _, d) => xVal k.toNat (some d) | none => xMal l, hE) := by
  intro hE
  refine run120 (Nat.le_of_ble_eq_true rfl) ?_
  cases l with
  | nil => simp [bl, eParts, mkI, xMal, sType]
  | cons t r =>
    have g : ¬ ((r.length : Int) + 1 < 1) := by omega
    have hI := c_IndexNul (some r)
    simp only [bl] at hI
    cases hn : nul r with
    | none =>
      rw [hn] at hI
      simp [bl, g, sl_tail, hI, eParts, hn, mkI, xMal, sKey]
    | some i =>
      rw [hn] at hI
      have hil := (nul_lt hn).1
      have g2 : ¬ ((i : Int) = -1) := by omega
      have w : IntKind.i64.wrap ((i : Int) + 2) = i + 2 := wrap_i64 (by omega) (by simp at hl; omega)
      have s := fun hp => sl_past (hp := hp) (e := 5) (t := t) (r := r) (i := i) hil
      have hv := c_ValValidate t.toNat (some (r.drop (i + 1))) (by simp [bl] at hl ⊢; omega)
      have hx : xVal (t.toNat : Int) (some (r.drop (i + 1))) = .nilI ∨ xVal (t.toNat : Int) (some (r.drop (i + 1))) = xFew (some (r.drop (i + 1))) (some (r.drop (i + 1))) := by unfold xVal; split; { exact .inl rfl }; { exact .inr rfl }
      rcases hx with hx | hx <;> simp [bl, g, sl_tail, hI, eParts, hn, g2, w, s, ix_head, hv, hx, hn]

def eVal (l : List UInt8) : AV :=
  match eParts l with
  | some (k, _, d) => if (vGet k.toNat d).isSome then .agg [.int .u8 k.toNat, bAV 5 (vData k.toNat (some d))] else .agg [.int .u8 0, bAV 5 none]
  | none => .agg [.int .u8 0, bAV 5 none]
def eValErr (l : List UInt8) : AV :=
  match eParts l with
  | some (k, _, d) => if (vGet k.toNat d).isSome then .nilI else xFew (some l) (some d)
  | none => xMal l
theorem c_ValueErr (l : List UInt8) (hl : l.length < 2147483648) : ∀ hE : H, callω fns 117 [bAV 5 (some l)] hE = some (.tup [eVal l, eValErr l], hE) := by
  intro hE
  have e0 : AV.slice .nil 0 1 [] = bAV 5 none := rfl
  refine run117 (Nat.le_of_ble_eq_true rfl) ?_
  cases l with
  | nil => simp [bl, eParts, mkI, xMal, sType, eVal, eValErr, e0, ldV, stV, St.at, St.setAt, ldO, stO, splice]
  | cons t r =>
    have g : ¬ ((r.length : Int) + 1 = 0) := by omega
    have hI := c_IndexNul (some r)
    simp only [bl] at hI
    cases hn : nul r with
    | none =>
      rw [hn] at hI
      simp [bl, g, sl_tail, hI, eParts, hn, mkI, xMal, sKey, eVal, eValErr, e0]
    | some i =>
      rw [hn] at hI
      have hil := (nul_lt hn).1
      have g2 : ¬ ((i : Int) = -1) := by omega
      have w : IntKind.i64.wrap ((i : Int) + 2) = i + 2 := wrap_i64 (by omega) (by simp at hl; omega)
      have s := fun hp => sl_past (hp := hp) (e := 5) (t := t) (r := r) (i := i) hil
      have hv := c_ReadVal t.toNat (some (r.drop (i + 1))) (by simp [bl] at hl ⊢; omega)
      simp only [bl] at hv
      have hi := c_NewIBE (some (t :: r)) (some (r.drop (i + 1)))
      cases hg : vGet (t.toNat : Int) (r.drop (i + 1)) with
      | none =>
        simp only [bl, hg, Option.isSome_none, Bool.false_eq_true, if_false] at hv
        simp [bl, g, sl_tail, hI, hn, g2, w, s, ix_head, hv, hi, mk_few, eVal, eValErr, eParts, hg, ex3_0, ex3_1, ex3_2, e0]
      | some m =>
        simp only [bl, hg, Option.isSome_some, if_true] at hv
        generalize hX : vData (t.toNat : Int) (some (r.drop (i + 1))) = X at *
        generalize vRest (t.toNat : Int) (some (r.drop (i + 1))) = Y at *
        simp [bl, g, sl_tail, hI, hn, g2, w, s, ix_head, hv, eVal, eValErr, eParts, hg, hX, ex3_0, ex3_1, ex3_2, e0]
theorem c_ElemValue (l : List UInt8) (hl : l.length < 2147483648) : ∀ hE : H, callω fns 113 [bAV 5 (some l)] hE = some (eVal l, hE) := by
  intro hE
  have e0 : AV.slice .nil 0 1 [] = bAV 5 none := rfl
  have h := c_ValueErr l hl
  refine run113 (Nat.le_of_ble_eq_true rfl) ?_
  have hv : ∃ k o, eVal l = .agg [.int .u8 k, bAV 5 o] := by
    unfold eVal; split
    · split; { exact ⟨_, _, rfl⟩ }; { exact ⟨_, _, rfl⟩ }
    · exact ⟨_, _, rfl⟩
  obtain ⟨k, o, hv⟩ := hv
  have hx : eValErr l = .nilI ∨ eValErr l = xMal l ∨ ∃ a b, eValErr l = xFew a b := by
    unfold eValErr; split
    · split; { exact .inl rfl }; { exact .inr (.inr ⟨_, _, rfl⟩) }
    · exact .inr (.inl rfl)
  rw [hv] at h ⊢
  rcases hx with hx | hx | ⟨a, b, hx⟩ <;> (rw [hx] at h; simp [h, ex2_0, ex2_1, xMal])
end Go.Proofs.YticoldgiebmmgaaGreatDoor.Abs

/- Documents of any bytes: their elements and values, the element with a number, whether they are valid; codes of errors. -/
namespace Go.Proofs.YticoldgiebmmgaaGreatDoor.Abs
set_option linter.all false
open Go.Proofs
set_option linter.unusedVariables false
set_option linter.unusedSimpArgs false
set_option maxRecDepth 100000
set_option maxHeartbeats 8000000

theorem c_ElemV {l : List UInt8} {m : Nat} (h : eGet l = some m) (hl : l.length < 2147483648) : ∀ hE : H, callω fns 120 [bAV 5 (some (l.take m))] hE = some (if eOk (l.take m) then .nilI else xFew (eDat (l.take m)) (eDat (l.take m)), hE) := by
  have hc := c_ElemValidate (l.take m) (by simp; omega)
  obtain ⟨t, r, i, n, rfl, hn, hv, rfl, hle, hp⟩ := eParts_take h
  intro hE
  rw [hc]
  cases hb : (vGet (t.toNat : Int) ((r.drop (i + 1)).take n)).isSome <;> simp only [hp, xVal, bl, hb, eOk, eDat, if_true, if_false, Bool.false_eq_true]
theorem RS.app_nil (b : RS) : b.app [] = b := by cases b <;> simp [RS.app]
inductive XC : AV → Int → Prop
  | nil : XC .nilI 0
  | few (a b) : XC (xFew a b) 1
theorem c_code {v : AV} {c : Int} (h : XC v c) : ∀ hE : H, callω fns 68 [v] hE = some (.int .i64 c, hE) := by
  intro hE
  cases h with
  | nil =>
    refine run68 (Nat.le_of_ble_eq_true rfl) ?_
    simp
  | few a b =>
    refine run68 (Nat.le_of_ble_eq_true rfl) ?_
    simp [xFew, taOk, exV]

theorem rest4_some {l : List UInt8} (h : 4 ≤ l.length) : rest4 (some l) = some (l.drop 4) := by
  match l, h with
  | _ :: _ :: _ :: _ :: r, _ => rfl
def dR (l : List UInt8) : List (List UInt8) × Bool := elemsR (l.length + 1) (num32 l - 4) (l.drop 4)
def dE (inv : List UInt8 → Option (List UInt8)) (l : List UInt8) : Option (List UInt8) × Option (List UInt8) := elemsE inv (some l) (l.length + 1) (num32 l - 4) (l.drop 4)
end Go.Proofs.YticoldgiebmmgaaGreatDoor.Abs

/- Documents of any bytes: values, the element with a number; whether they are valid; codes of errors. -/
namespace Go.Proofs.YticoldgiebmmgaaGreatDoor.Abs
set_option linter.all false
open Go.Proofs
set_option linter.unusedVariables false
set_option linter.unusedSimpArgs false
set_option maxRecDepth 100000
set_option maxHeartbeats 8000000

/-! ### Whether it is valid -/
def sLen : List UInt8 := [100, 111, 99, 117, 109, 101, 110, 116, 32, 111, 114, 32, 97, 114, 114, 97, 121, 32, 108, 101, 110, 103, 116, 104, 32, 105, 115, 32, 105, 110, 118, 97, 108, 105, 100]
def sNull : List UInt8 := [100, 111, 99, 117, 109, 101, 110, 116, 32, 111, 114, 32, 97, 114, 114, 97, 121, 32, 101, 110, 100, 32, 105, 115, 32, 109, 105, 115, 115, 105, 110, 103, 32, 110, 117, 108, 108, 32, 98, 121, 116, 101]
def xVE (s : List UInt8) : AV := .iface 184 (.str s)
def endX : List UInt8 → AV
  | [] => xVE sNull
  | c :: _ => if c = 0 then .nilI else xVE sNull
theorem l_Validate {o : Option (List UInt8)} : ∀ (f : Nat) (n : Int) (l : List UInt8) (st : St), st.s 0 = bAV 5 o → st.s 3 = .int .i32 n → st.s 4 = bAV 5 (some l) →
    l.length < f → l.length < 2147483648 → -2147483648 ≤ n → n < 2147483648 → ∀ Q : Ex × St → Prop,
    ((elemsR f n l).2 = true → ∀ st' : St, st'.h = st.h → st'.s 4 = bAV 5 (some (elemsT f n l)) → Q (.exit 0, st')) →
    ((elemsR f n l).2 = false → ∀ st' : St, st'.h = st.h → st'.s 2 = xFew (elemsE eDat o f n l).1 (elemsE eDat o f n l).2 → Q (.ret, st')) → LoopR fns lc69_0 st Q
  | 0, n, l, st, h0, h4, h5, hf, hl, hn0, hn1, Q, hA, hB => by omega
  | f + 1, n, l, st, h0, h4, h5, hf, hl, hn0, hn1, Q, hA, hB => by
    refine loopω_run fns ?_
    by_cases hn : n ≤ 1
    · have g : ¬ (1 < n) := by omega
      simp only [elemsR, elemsT, hn, if_true] at hA
      simp [h4, g]
      refine hA (by simp) _ ?_ ?_ <;> simp [h5]
    · have g : 1 < n := by omega
      have hr := c_ReadElement l hl
      cases he : eGet l with
      | none =>
        have e : eRes l = .tup [bAV 5 none, bAV 5 (some l), .bool false] := by simp [eRes, he]
        rw [e] at hr
        have hi := c_NewIBE o (some l)
        simp only [elemsR, elemsE, hn, if_false, he] at hB
        have w0 : IntKind.i32.wrap 0 = 0 := rfl
        have w1 : IntKind.i32.wrap n = n := i32_small hn0 hn1
        simp [xFew, h0, h4, h5, g, hr, hi, mk_few, ex3_0, ex3_1, ex3_2, bl, w0, w1]
        refine hB (by simp) _ ?_ ?_ <;> simp [xFew]
      | some m =>
        have hm := eGet_le he
        have e : eRes l = .tup [bAV 5 (some (l.take m)), bAV 5 (some (l.drop m)), .bool true] := by simp [eRes, he]
        rw [e] at hr
        have hv := c_ElemV he hl
        have hX : (l.take m).length = m := by simp; omega
        have hY : (l.drop m).length = l.length - m := by simp
        have w0 : IntKind.i32.wrap (m : Int) = m := i32_small (by omega) (by omega)
        have w1 : IntKind.i32.wrap (n - m) = n - m := i32_small (by omega) (by omega)
        simp only [elemsR, elemsE, elemsT, hn, if_false, he] at hA hB
        cases hk : eOk (l.take m) with
        | false =>
          simp only [hk, Bool.false_eq_true, if_false, xFew] at hv hB
          generalize l.take m = X at *
          generalize eDat X = d at *
          simp [xFew, h0, h4, h5, g, hr, hv, ex3_0, ex3_1, ex3_2, bl, hX, w0, w1]
          refine hB (by simp) _ ?_ ?_ <;> simp [xFew]
        | true =>
          simp only [hk, if_true] at hv hA hB
          generalize l.take m = X at *
          simp [h0, h4, h5, g, hr, hv, ex3_0, ex3_1, ex3_2, bl, hX, w0, w1]
          refine l_Validate (o := o) f (n - m) (l.drop m) _ ?_ ?_ ?_ ?_ ?_ (by omega) (by omega) Q (fun hb st' k1 k2 => hA hb st' ?_ ?_) (fun hb st' k1 k2 => hB hb st' ?_ ?_)
          · simp [h0]
          · simp
          · simp
          · omega
          · omega
          · rw [k1]
          · exact k2
          · rw [k1]
          · exact k2
def docX (l : List UInt8) : AV :=
  if okL l = false then xFew (some l) (rest4 (some l)) else if (l.length : Int) < num32 l then xVE [100, 111, 99, 117, 109, 101, 110, 116, 32, 108, 101, 110, 103, 116, 104, 32, 101, 120, 99, 101, 101, 100, 115, 32, 97, 118, 97, 105, 108, 97, 98, 108, 101, 32, 98, 121, 116, 101, 115]
  else if num32 l < 5 then xVE sLen else if (l[(num32 l - 1).toNat]?) ≠ some 0 then xVE sNull
  else if (dR l).2 = false then xFew (dE eDat l).1 (dE eDat l).2 else endX (elemsT (l.length + 1) (num32 l - 4) (l.drop 4))
theorem c_lenErr (a b : Int) : ∀ hE : H, callω fns 119 [.int .i64 a, .int .i64 b] hE = some (xVE [100, 111, 99, 117, 109, 101, 110, 116, 32, 108, 101, 110, 103, 116, 104, 32, 101, 120, 99, 101, 101, 100, 115, 32, 97, 118, 97, 105, 108, 97, 98, 108, 101, 32, 98, 121, 116, 101, 115], hE) := by
  intro hE
  have h1 : ∀ hE : H, callω fns 158 [.str [100, 111, 99, 117, 109, 101, 110, 116], .int .i64 a, .int .i64 b] hE = some (xVE [100, 111, 99, 117, 109, 101, 110, 116, 32, 108, 101, 110, 103, 116, 104, 32, 101, 120, 99, 101, 101, 100, 115, 32, 97, 118, 97, 105, 108, 97, 98, 108, 101, 32, 98, 121, 116, 101, 115], hE) := by
    intro hE
    refine run158 (Nat.le_of_ble_eq_true rfl) ?_
    simp [mkI, xVE, maxLen]
  refine run119 (Nat.le_of_ble_eq_true rfl) ?_
  simp [h1, xVE]
theorem c_DocValidate (l : List UInt8) (hl : l.length < 2147483648) : ∀ hE : H, callω fns 69 [bAV 5 (some l)] hE = some (docX l, hE) := by
  intro hE
  have hR := c_RLen (some l)
  simp only [bl] at hR
  unfold docX
  by_cases hk : okL l = true
  case neg =>
    simp only [Bool.not_eq_true] at hk
    have hi := c_NewIBE (some l) (rest4 (some l))
    rw [hk] at hR
    generalize rest4 (some l) = R at *
    refine run69 (Nat.le_of_ble_eq_true rfl) ?_
    simp [hR, hk, hi, xFew, mkI, ex3_0, ex3_1, ex3_2]
  case pos =>
    obtain ⟨h4, h0⟩ := okL_le hk
    rw [hk, rest4_some h4] at hR
    have hr := num32_range l
    have w : IntKind.i32.wrap (num32 l - 4) = num32 l - 4 := i32_small (by omega) (by omega)
    have w64 : IntKind.i64.wrap (num32 l) = num32 l := wrap_i64 (by omega) (by omega)
    have w1 : IntKind.i32.wrap (num32 l - 1) = num32 l - 1 := i32_small (by omega) (by omega)
    have hd : (l.drop 4).length = l.length - 4 := by simp
    have hle := c_lenErr (num32 l) l.length
    have hk' : ¬ (okL l = false) := by simp [hk]
    rw [if_neg hk']
    refine run69 (Nat.le_of_ble_eq_true rfl) ?_
    by_cases c1 : (l.length : Int) < num32 l
    · rw [if_pos c1]
      generalize num32 l = N at *
      generalize l.drop 4 = L at *
      simp only [xVE] at hle
      simp [hR, w64, ex3_0, ex3_1, ex3_2, bl, c1, hle, xVE]
    rw [if_neg c1]
    by_cases c2 : num32 l < 5
    · rw [if_pos c2]
      generalize num32 l = N at *
      generalize l.drop 4 = L at *
      simp [hR, w64, ex3_0, ex3_1, ex3_2, bl, c1, c2, mkI, xVE, sLen]
    rw [if_neg c2]
    have hlt : (num32 l - 1).toNat < l.length := by omega
    have hix : ixV 1 (bAV 5 (some l)) (.int .i32 (((num32 l - 1).toNat : Nat) : Int)) = some (.eptr (.int .u8 (l[(num32 l - 1).toNat].toNat : Int) :: byteCells (l.drop ((num32 l - 1).toNat + 1)))) := bAV_at (e := 5) hlt
    have ei : (((num32 l - 1).toNat : Nat) : Int) = num32 l - 1 := by omega
    rw [ei] at hix
    rw [List.getElem?_eq_getElem hlt]
    generalize l[(num32 l - 1).toNat] = c at *
    by_cases c3 : c = 0
    case neg =>
      have c3' : ¬ c.toNat = 0 := fun e => c3 (UInt8.toNat_inj.1 e)
      rw [if_pos (by simp [c3])]
      generalize num32 l = N at *
      generalize l.drop 4 = L at *
      simp [hR, w64, w1, ex3_0, ex3_1, ex3_2, bl, c1, c2, hix, c3', mkI, xVE, sNull]
    subst c3
    rw [if_neg (by simp)]
    unfold dR dE
    generalize hN : num32 l = N at *
    generalize hL : l.drop 4 = L at *
    simp [hR, w64, w1, w, ex3_0, ex3_1, ex3_2, bl, c1, c2, hix]
    refine l_Validate (o := some l) (l.length + 1) (N - 4) L _ ?_ ?_ ?_ (by omega) (by omega) (by omega) (by omega) _ (fun hb st' k1 k2 => ?_) (fun hb st' k1 k2 => ?_)
    · simp
    · simp
    · simp
    · generalize elemsT (l.length + 1) (N - 4) L = T at *
      cases T with
      | nil => simp [k1, k2, hb, endX, bl, mkI, xVE, sNull, pkV, AV.several]
      | cons c r =>
        have g : ¬ ((r.length : Int) + 1 < 1) := by omega
        by_cases hc : c = 0
        · have hc' : c.toNat = 0 := by rw [hc]; rfl
          simp [k1, k2, hb, endX, bl, hc, g, ix_head, pkV, AV.several]
        · have hc' : ¬ c.toNat = 0 := fun e => hc (UInt8.toNat_inj.1 e)
          simp [k1, k2, hb, endX, bl, hc, hc', g, ix_head, mkI, xVE, sNull, pkV, AV.several]
    · simp only [xFew] at k2
      simp [k1, k2, hb, xFew]
end Go.Proofs.YticoldgiebmmgaaGreatDoor.Abs

/- Sentinels; the codes of errors; what is copied. -/
namespace Go.Proofs.YticoldgiebmmgaaGreatDoor.Abs
set_option linter.all false
open Go.Proofs
set_option linter.unusedVariables false
set_option linter.unusedSimpArgs false
set_option maxRecDepth 100000
set_option maxHeartbeats 8000000

/-! ### Sentinels -/
def sE (p : Nat × Nat) : AV := .iface 253 (.sen p.1 p.2)
structure Sens (Γ : Nat → Option (List AV)) (s : Nat → Nat × Nat) : Prop where
  g0 : Γ 3 = some [sE (s 0)]
  g1 : Γ 2 = some [sE (s 1)]
  g2 : Γ 1 = some [sE (s 2)]
  g3 : Γ 4 = some [sE (s 3)]
  ne : ∀ i j, i < 4 → j < 4 → i ≠ j → s i ≠ s j
def senC (i : Nat) : Int := if i = 0 then 7 else if i = 1 then 7 else if i = 2 then 8 else 11
theorem c_code_nil : ∀ hE : H, callω fns 68 [.nilI] hE = some (.int .i64 0, hE) := c_code .nil
theorem c_code_few (a b) : ∀ hE : H, callω fns 68 [xFew a b] hE = some (.int .i64 1, hE) := c_code (.few a b)
theorem c_code_V (s : List UInt8) : ∀ hE : H, callω fns 68 [xVE s] hE = some (.int .i64 (if s = sLen then 2 else if s = sNull then 3 else 4), hE) := by
  intro hE
  refine run68 (Nat.le_of_ble_eq_true rfl) ?_
  by_cases h1 : s = sLen
  · simp [xVE, h1, taOk, exV, sLen]
  by_cases h2 : s = sNull
  · simp [xVE, h1, h2, taOk, exV, sLen, sNull]
  have h1' : (s == sLen) = false := by simpa using h1
  have h2' : (s == sNull) = false := by simpa using h2
  simp only [sLen] at h1 h1'
  simp only [sNull] at h2 h2'
  simp [xVE, h1, h2, h1', h2', taOk, exV, sLen, sNull]

def docC (l : List UInt8) : Int :=
  if okL l = false then 1 else if (l.length : Int) < num32 l then 4 else if num32 l < 5 then 2 else if (l[(num32 l - 1).toNat]?) ≠ some 0 then 3
  else if (dR l).2 = false then 1 else match elemsT (l.length + 1) (num32 l - 4) (l.drop 4) with | [] => 3 | c :: _ => if c = 0 then 0 else 3
theorem c_code_doc (l : List UInt8) : ∀ hE : H, callω fns 68 [docX l] hE = some (.int .i64 (docC l), hE) := by
  intro hE
  unfold docX docC
  split
  · exact c_code_few _ _ hE
  split
  · rw [c_code_V]; rfl
  split
  · rw [c_code_V]; rfl
  split
  · rw [c_code_V]; rfl
  split
  · exact c_code_few _ _ hE
  cases elemsT (l.length + 1) (num32 l - 4) (l.drop 4) with
  | nil => simp only [endX]; rw [c_code_V]; rfl
  | cons c r =>
    simp only [endX]
    split
    · exact c_code_nil hE
    · rw [c_code_V]; rfl
theorem docX_cases (l : List UInt8) : docX l = .nilI ∨ (∃ a b, docX l = xFew a b) ∨ ∃ s, docX l = xVE s := by
  unfold docX
  split
  · exact .inr (.inl ⟨_, _, rfl⟩)
  split
  · exact .inr (.inr ⟨_, rfl⟩)
  split
  · exact .inr (.inr ⟨_, rfl⟩)
  split
  · exact .inr (.inr ⟨_, rfl⟩)
  split
  · exact .inr (.inl ⟨_, _, rfl⟩)
  cases elemsT (l.length + 1) (num32 l - 4) (l.drop 4) with
  | nil => exact .inr (.inr ⟨_, rfl⟩)
  | cons c r =>
    simp only [endX]
    split
    · exact .inl rfl
    · exact .inr (.inr ⟨_, rfl⟩)
theorem c_own (o : Option (List UInt8)) (h : (bl o).length < 2147483648) : ∀ hE : H, callω fns 23 [bAV 5 o] hE = some ((BS.mk (bl o)).av 5, hE) := by
  intro hE
  have ha : ∀ hp : H, apV hp 5 1 1 false (.slice .nil 0 1 []) (bAV 5 o) = some ((BS.mk (bl o)).av 5) := fun hp => by
    have := apV_b (hp := hp) (e := 5) (b := BS.nil) (o := o) (by simp only [BS.l, List.length_nil, tooLong]; omega)
    rw [BS.nil_app] at this; exact this
  refine run23 (Nat.le_of_ble_eq_true rfl) ?_
  simp [ha]

end Go.Proofs.YticoldgiebmmgaaGreatDoor.Abs

/- Names that lead into a right document. -/
namespace Go.Proofs.YticoldgiebmmgaaGreatDoor.Abs
set_option linter.all false
open Go.Proofs
set_option linter.unusedVariables false
set_option linter.unusedSimpArgs false
set_option maxRecDepth 100000
set_option maxHeartbeats 8000000

def Ks.find (nm : List UInt8) : Ks → Option Tr
  | .nil => none
  | .cons n v r => if n = nm then some v else Ks.find nm r
def Tr.kids : Tr → Ks
  | .mk _ _ _ _ _ _ _ _ ks => ks
theorem Tr.val_kids {v : Tr} (h : v.kind = 3 ∨ v.kind = 4) : v.val = v.kids.doc := by
  cases v with
  | mk k t m n bi hi b kn ks =>
    simp only [Tr.kind] at h
    rcases h with rfl | rfl <;> simp [Tr.val, Tr.kids, Ks.doc]
theorem Tr.kids_good {v : Tr} {d : Nat} (h : v.kind = 3 ∨ v.kind = 4) (hr : v.right d = true) : v.kids.good := by
  cases v with
  | mk k t m n bi hi b kn ks =>
    simp only [Tr.kind] at h
    simp only [Tr.right, Bool.and_eq_true] at hr
    have h2 := hr.2.2.2
    have e1 : ¬ k = 5 := by omega
    have e2 : ¬ (k = 7 ∨ k = 12) := by omega
    have e3 : ¬ k = 8 := by omega
    have e4 : ¬ k = 16 := by omega
    have e5 : ¬ k = 11 := by omega
    rw [if_neg e1, if_neg e2, if_neg e3, if_neg e4, if_neg e5] at h2
    exact Ks.right_good h2
theorem Tr.kids_sz (v : Tr) : v.kids.sz ≤ v.sz := by
  cases v with
  | mk k t m n bi hi b kn ks =>
    simp only [Tr.kids, Tr.sz, Ks.sz, Tr.nb, Tr.nodes]
    omega
def strsA (l : List (List UInt8)) : AV := .slice .frz 9 1 (l.map AV.str)
def xDep (a : List UInt8) (k : Int) : AV := .iface 182 (.agg [.str a, .int .u8 k])
def lookE (s : Nat → Nat × Nat) : List (List UInt8) → Ks → AV
  | [], _ => .nilI
  | a :: r, ks => match ks.find a with
    | none => sE (s 1)
    | some v => if r = [] then .nilI else if v.kind = 3 ∨ v.kind = 4 then lookE s r v.kids else xDep a v.kind
def lookT : List (List UInt8) → Ks → Option Tr
  | [], _ => none
  | a :: r, ks => match ks.find a with
    | none => none
    | some v => if r = [] then some v else if v.kind = 3 ∨ v.kind = 4 then lookT r v.kids else none
def lookV (o : Option Tr) : List AV := match o with | some v => [.int .u8 v.kind, bAV 5 (some v.val)] | none => [.int .u8 0, .slice .nil 0 1 []]
theorem c_rlb (K : Ks) (hs : K.sz ≤ 90000) : ∀ hE : H, callω fns 76 [bAV 5 (some K.doc)] hE = some (.tup [bAV 5 (some K.doc), bAV 5 (some []), .bool true], hE) := by
  intro hE
  obtain ⟨n1, n2⟩ := doc_num K (by omega)
  have hlen := Ks.doc_length K
  have hb := Ks.body_le K
  have hsz : K.sz = K.nb + 18 * K.nodes := rfl
  have hR := c_RLen (some K.doc)
  simp only [bl] at hR
  have hk : okL K.doc = true := by unfold okL; rw [n1, hlen]; simp; omega
  rw [n1, hk, rest4_some (by omega)] at hR
  have hlt : ¬ ((K.body.length : Int) + 5 < 4) := by omega
  have hln : (K.doc.length : Int) = (K.body.length : Int) + 5 := by omega
  have w : IntKind.i64.wrap ((K.body.length : Int) + 5) = K.body.length + 5 := wrap_i64 (by omega) (by omega)
  have s1 : ∀ hp : H, slSl hp 1 (bAV 5 (some K.doc)) (some 0) (some ((K.body.length : Int) + 5)) = some (bAV 5 (some K.doc)) := fun hp => by
    have := sl_to (hp := hp) (e := 5) (l := K.doc) (m := K.doc.length) (Nat.le_refl _)
    rw [hln, List.take_length] at this; exact this
  have s2 : ∀ hp : H, slSl hp 1 (bAV 5 (some K.doc)) (some ((K.body.length : Int) + 5)) (some ((K.body.length : Int) + 5)) = some (bAV 5 (some [])) := fun hp => by
    have := sl_from (hp := hp) (e := 5) (l := K.doc) (m := K.doc.length) (Nat.le_refl _)
    rw [hln, List.drop_length] at this; exact this
  generalize K.doc = D at *
  generalize (K.body.length : Int) + 5 = N at *
  refine run76 (Nat.le_of_ble_eq_true rfl) ?_
  simp [hR, hlt, hln, w, s1, s2, bl, ex3_0, ex3_1, ex3_2]
theorem c_ValDoc (K : Ks) (hs : K.sz ≤ 90000) : ∀ hE : H, callω fns 114 [.agg [.int .u8 3, bAV 5 (some K.doc)]] hE = some (bAV 5 (some K.doc), hE) := by
  intro hE
  have h := c_rlb K hs
  have h2 : ∀ hE : H, callω fns 47 [bAV 5 (some K.doc)] hE = some (.tup [bAV 5 (some K.doc), bAV 5 (some []), .bool true], hE) := by
    intro hE
    refine run47 (Nat.le_of_ble_eq_true rfl) ?_
    simp [h, ex3_0, ex3_1, ex3_2]
  refine run114 (Nat.le_of_ble_eq_true rfl) ?_
  simp [h2, ex3_0, ex3_1, ex3_2]
theorem c_ValArr (K : Ks) (hs : K.sz ≤ 90000) : ∀ hE : H, callω fns 115 [.agg [.int .u8 4, bAV 5 (some K.doc)]] hE = some (bAV 5 (some K.doc), hE) := by
  intro hE
  have h := c_rlb K hs
  have h2 : ∀ hE : H, callω fns 48 [bAV 5 (some K.doc)] hE = some (.tup [bAV 5 (some K.doc), bAV 5 (some []), .bool true], hE) := by
    intro hE
    refine run48 (Nat.le_of_ble_eq_true rfl) ?_
    simp [h, ex3_0, ex3_1, ex3_2]
  refine run115 (Nat.le_of_ble_eq_true rfl) ?_
  simp [h2, ex3_0, ex3_1, ex3_2]
end Go.Proofs.YticoldgiebmmgaaGreatDoor.Abs

/- Names that lead into a right document: the walk. -/
namespace Go.Proofs.YticoldgiebmmgaaGreatDoor.Abs
set_option linter.all false
open Go.Proofs
set_option linter.unusedVariables false
set_option linter.unusedSimpArgs false
set_option maxRecDepth 100000
set_option maxHeartbeats 8000000

theorem eVal_elem {nm : List UInt8} {v : Tr} {dd : Nat} (hp : plainL nm = true) (hR : v.right dd = true) (hs : v.sz ≤ 1000000000) :
    eVal (elemL nm v) = .agg [.int .u8 v.kind, bAV 5 (some v.val)] ∧ eValErr (elemL nm v) = .nilI := by
  have h1 := eParts_elem (v := v) hp
  have h2 := vGet_val v hR hs []
  rw [List.append_nil] at h2
  have h3 := byteOf_kind hR
  unfold eVal eValErr
  rw [h1]
  simp only [h3, h2, Option.isSome_some, if_true, vData, bl, Option.map_some, List.take_length, and_self]
structure SR1 (b b' : RS) (a : List UInt8) (p : List (List UInt8)) : Prop where
  at0 : ∃ r, ixV 1 (b.fv 9 1) (.int .i64 0) = some (.eptr (.str a :: r))
  len : aLen false (b.fv 9 1) = some (.int .i64 (p.length + 1 : Nat))
  lenV : lenV (b.fv 9 1) = some ((p.length + 1 : Nat) : Int)
  sl : ∀ hp : H, slSl hp 1 (b.fv 9 1) (some 1) (some ((p.length + 1 : Nat) : Int)) = some (b'.fv 9 1)
def strsR (l : List (List UInt8)) : RS := .own true (l.map AV.str)
theorem SR1_of (a : List UInt8) (p : List (List UInt8)) : SR1 (strsR (a :: p)) (strsR p) a p where
  at0 := ⟨p.map AV.str, RS.fv_at' (k := 0) (pre := []) (by simp [strsR, RS.l]) rfl⟩
  len := by rw [RS.fv_len1]; simp [strsR, RS.l]
  lenV := by simp [strsR, RS.fv]
  sl := fun hp => by
    show slSl hp 1 (.slice .frz 9 1 ((a :: p).map AV.str)) (some 1) (some ((p.length + 1 : Nat) : Int)) = _
    simp only [slSl]
    rw [if_pos ⟨by omega, by omega, by simp, .inr trivial⟩]
    simp [strsR, RS.fv, List.take_of_length_le]

theorem c_Key1 {nm : List UInt8} {v : Tr} (hp : plainL nm = true) (hl : (elemL nm v).length < 2147483648) : ∀ hE : H, callω fns 116 [bAV 5 (some (elemL nm v))] hE = some (.str nm, hE) := by
  intro hE
  have h := c_KeyErr (elemL nm v) hl
  rw [eParts_elem (v := v) hp] at h
  simp only at h
  refine run116 (Nat.le_of_ble_eq_true rfl) ?_
  simp [h, ex2_0, ex2_1]
theorem look_cases (s : Nat → Nat × Nat) : ∀ (p : List (List UInt8)) (ks : Ks), p ≠ [] → (lookT p ks = none ∧ (lookE s p ks = sE (s 1) ∨ ∃ x k, lookE s p ks = xDep x k)) ∨ ∃ w, lookT p ks = some w ∧ lookE s p ks = .nilI
  | [], ks, h => absurd rfl h
  | a :: r, ks, _ => by
    simp only [lookT, lookE]
    cases ks.find a with
    | none => exact .inl ⟨rfl, .inl rfl⟩
    | some v =>
      simp only
      by_cases hr : r = []
      · rw [if_pos hr, if_pos hr]; exact .inr ⟨v, rfl, rfl⟩
      · rw [if_neg hr, if_neg hr]
        by_cases hk : v.kind = 3 ∨ v.kind = 4
        · rw [if_pos hk, if_pos hk]; exact look_cases s r v.kids hr
        · rw [if_neg hk, if_neg hk]; exact .inl ⟨rfl, .inr ⟨_, _, rfl⟩⟩
theorem l_Lookup {K : Ks} {a : List UInt8} {p : List (List UInt8)} {b b' : RS} (hb : SR1 b b' a p) (hpl : p.length ≤ 1000000) {s : Nat → Nat × Nat}
    (hrec : p ≠ [] → ∀ ks : Ks, ks.good → ks.sz ≤ 90000 → ∀ hE : H, Sens hE.Γ s → callω fns 66 [bAV 5 (some ks.doc), b'.fv 9 1] hE = some (.tup [.agg (lookV (lookT p ks)), lookE s p ks], hE)) :
    ∀ (r : Ks) (st : St), st.s 0 = bAV 5 (some K.doc) → st.s 1 = b.fv 9 1 → st.s 4 = .ptr (.loc 4) 0 → st.b 4 = some (.cells [.int .u8 0, .slice .nil 0 1 []]) → st.b 11 = none → st.b 13 = none → st.s 6 = .int .i32 (r.body.length + 1) → st.s 7 = bAV 5 (some (r.body ++ [0])) →
      r.good → r.sz ≤ 90000 → Sens st.h.Γ s → ∀ Q : Ex × St → Prop,
      (r.find a = none → ∀ st' : St, st'.h = st.h → st'.s 4 = .ptr (.loc 4) 0 → st'.b 4 = some (.cells [.int .u8 0, .slice .nil 0 1 []]) → Q (.exit 0, st')) →
      (∀ v, r.find a = some v → ∀ st' : St, st'.h = st.h → st'.s 4 = .ptr (.loc 4) 0 → st'.b 4 = some (.cells (lookV (if p = [] then some v else if v.kind = 3 ∨ v.kind = 4 then lookT p v.kids else none))) →
        st'.s 5 = (if p = [] then .nilI else if v.kind = 3 ∨ v.kind = 4 then lookE s p v.kids else xDep a v.kind) → Q (.ret, st')) → LoopR fns lc66_0 st Q
  | .nil, st, h0, h1, h4, hb4, hb11, hb13, h6, h7, hg, hsz, hS, Q, hA, hB => by
    refine loopω_run fns ?_
    simp [Ks.body, h6]
    refine hA rfl _ ?_ ?_ ?_ <;> simp [h4, hb4]
  | .cons nm v r, st, h0, h1, h4, hb4, hb11, hb13, h6, h7, hg, hsz, hS, Q, hA, hB => by
    refine loopω_run fns ?_
    obtain ⟨hp, ⟨dd, hR⟩, hG⟩ := hg
    rw [Ks.sz_cons] at hsz
    have hvl := Tr.val_le v
    have hvs : v.sz = v.nb + 18 * v.nodes := rfl
    have hel := elemL_length nm v
    have hbl := Ks.body_le r
    have hrs : r.sz = r.nb + 18 * r.nodes := rfl
    have hB0 : (Ks.cons nm v r).body = elemL nm v ++ r.body := by simp [Ks.body, elemL, hdL]
    rw [hB0] at h6 h7
    rw [List.append_assoc] at h7
    have hre := c_ReadElement (elemL nm v ++ (r.body ++ [0])) (by simp; omega)
    have he : eRes (elemL nm v ++ (r.body ++ [0])) = .tup [bAV 5 (some (elemL nm v)), bAV 5 (some (r.body ++ [0])), .bool true] := by
      simp only [eRes, eGet_elem hp hR (by omega) (r.body ++ [0]), List.take_left, List.drop_left]
    rw [he] at hre
    have hkb := c_KeyBytes (elemL nm v) (by omega)
    rw [eParts_elem (v := v) hp] at hkb
    simp only at hkb
    have hg1 : (1 : Int) < ((elemL nm v ++ r.body).length : Int) + 1 := by simp; omega
    have w0 : IntKind.i32.wrap ((elemL nm v).length : Int) = (elemL nm v).length := i32_small (by omega) (by omega)
    have w1 : IntKind.i32.wrap ((((elemL nm v ++ r.body).length : Int) + 1) - (elemL nm v).length) = r.body.length + 1 := by
      rw [i32_small] <;> simp <;> omega
    obtain ⟨rst, b1⟩ := hb.at0
    have b2 := hb.len
    have b3 := hb.lenV
    have b4 := hb.sl
    generalize ((elemL nm v ++ r.body).length : Int) + 1 = N at *
    by_cases hnm : nm = a
    case neg =>
      have hf : (Ks.cons nm v r).find a = r.find a := by simp [Ks.find, hnm]
      rw [hf] at hA hB
      have hnm' : (nm == a) = false := by simpa using hnm
      generalize elemL nm v = E at *
      simp [h0, h1, h4, hb4, h6, h7, hg1, hre, hkb, w0, w1, b1, hnm', ex3_0, ex3_1, ex3_2, bl]
      refine l_Lookup (K := K) hb hpl hrec r _ ?_ ?_ ?_ ?_ ?_ ?_ ?_ ?_ hG (by omega) ?_ Q (fun k st' q1 q2 q3 => hA k st' ?_ q2 q3) (fun v k st' q1 q2 q3 q4 => hB v k st' ?_ q2 q3 q4)
      · simp [h0]
      · simp [h1]
      · simp [h4]
      · simp [hb4]
      · simp [hb11]
      · simp [hb13]
      · simp
      · simp
      · exact hS
      · rw [q1]
      · rw [q1]
    subst hnm
    have hf : (Ks.cons nm v r).find nm = some v := by simp [Ks.find]
    have hB' := hB v hf
    obtain ⟨ev, ee⟩ := eVal_elem (v := v) hp hR (by omega)
    by_cases hpe : p = []
    · subst hpe
      have hv := c_ValueErr (elemL nm v) (by omega)
      rw [ev, ee] at hv
      simp only [List.length_nil, Nat.zero_add] at b2
      simp only [if_true] at hB'
      generalize elemL nm v = E at *
      simp [h0, h1, h4, hb4, h6, h7, hg1, hre, hkb, w0, w1, b1, b2, hv, ex3_0, ex3_1, ex3_2, ex2_0, ex2_1, bl]
      refine hB' _ ?_ ?_ ?_ ?_ <;> simp [lookV, h4]
    · simp only [if_neg hpe] at hB'
      have hp1 : (1 : Int) < ((p.length + 1 : Nat) : Int) := by have : p.length ≠ 0 := fun e => hpe (List.length_eq_zero_iff.1 e); omega
      have hev := c_ElemValue (elemL nm v) (by omega)
      rw [ev] at hev
      have hix0 : ixV 1 (bAV 5 (some (elemL nm v))) (.int .i64 0) = some (.eptr (.int .u8 v.kind :: byteCells (nm ++ 0 :: v.val))) := by
        have e : elemL nm v = byteOf v.kind :: (nm ++ 0 :: v.val) := by simp [elemL, hdL]
        rw [e, ix_head, byteOf_kind hR]
      generalize (p.length + 1 : Nat) = PL at *
      by_cases h3 : v.kind = 3
      · have hk : v.kind = 3 ∨ v.kind = 4 := .inl h3
        rw [if_pos hk, if_pos hk] at hB'
        have hs2 := Tr.kids_sz v
        have hr2 := hrec hpe v.kids (Tr.kids_good hk hR) (by omega)
        have hd2 := c_ValDoc v.kids (by omega)
        rw [Tr.val_kids hk] at hev
        have hcs : (lookT p v.kids = none ∧ (lookE s p v.kids = sE (s 1) ∨ ∃ x k, lookE s p v.kids = xDep x k)) ∨ ∃ w, lookT p v.kids = some w ∧ lookE s p v.kids = .nilI := look_cases s p v.kids hpe
        generalize elemL nm v = E at *
        generalize v.kids.doc = D at *
        rw [h3] at hev hix0
        generalize lookT p v.kids = LT at *
        generalize lookE s p v.kids = LE at *
        have hr3 := hr2 st.h.mask hS
        rcases hcs with ⟨rfl, hle⟩ | ⟨w, rfl, rfl⟩
        · rcases hle with rfl | ⟨x, k, rfl⟩ <;> simp only [sE, xDep] at hr3 hB' <;>
            simp [h0, h1, h4, hb4, hb11, hb13, h6, h7, hg1, hre, hkb, w0, w1, b1, b2, b3, b4, hp1, hix0, hev, hd2, hr3, lookV, ex3_0, ex3_1, ex3_2, ex2_0, ex2_1, bl] <;>
            refine hB' _ ?_ ?_ ?_ ?_ <;> simp [lookV, h4, hb4]
        · simp [h0, h1, h4, hb4, hb11, hb13, h6, h7, hg1, hre, hkb, w0, w1, b1, b2, b3, b4, hp1, hix0, hev, hd2, hr3, lookV, ex3_0, ex3_1, ex3_2, ex2_0, ex2_1, bl]
          refine hB' _ ?_ ?_ ?_ ?_ <;> simp [lookV, h4, hb4]
      by_cases h4k : v.kind = 4
      · have hk : v.kind = 3 ∨ v.kind = 4 := .inr h4k
        rw [if_pos hk, if_pos hk] at hB'
        have hs2 := Tr.kids_sz v
        have hr2 := hrec hpe v.kids (Tr.kids_good hk hR) (by omega)
        have hd2 := c_ValArr v.kids (by omega)
        rw [Tr.val_kids hk] at hev
        have hcs : (lookT p v.kids = none ∧ (lookE s p v.kids = sE (s 1) ∨ ∃ x k, lookE s p v.kids = xDep x k)) ∨ ∃ w, lookT p v.kids = some w ∧ lookE s p v.kids = .nilI := look_cases s p v.kids hpe
        generalize elemL nm v = E at *
        generalize v.kids.doc = D at *
        rw [h4k] at hev hix0
        generalize lookT p v.kids = LT at *
        generalize lookE s p v.kids = LE at *
        have hr3 := hr2 st.h.mask hS
        rcases hcs with ⟨rfl, hle⟩ | ⟨w, rfl, rfl⟩
        · rcases hle with rfl | ⟨x, k, rfl⟩ <;> simp only [sE, xDep] at hr3 hB' <;>
            simp [h0, h1, h4, hb4, hb11, hb13, h6, h7, hg1, hre, hkb, w0, w1, b1, b2, b3, b4, hp1, hix0, hev, hd2, hr3, lookV, ex3_0, ex3_1, ex3_2, ex2_0, ex2_1, bl] <;>
            refine hB' _ ?_ ?_ ?_ ?_ <;> simp [lookV, h4, hb4]
        · simp [h0, h1, h4, hb4, hb11, hb13, h6, h7, hg1, hre, hkb, w0, w1, b1, b2, b3, b4, hp1, hix0, hev, hd2, hr3, lookV, ex3_0, ex3_1, ex3_2, ex2_0, ex2_1, bl]
          refine hB' _ ?_ ?_ ?_ ?_ <;> simp [lookV, h4, hb4]
      · have hk : ¬ (v.kind = 3 ∨ v.kind = 4) := by omega
        rw [if_neg hk, if_neg hk] at hB'
        have hkey := c_Key1 hp (v := v) (by omega)
        generalize elemL nm v = E at *
        generalize v.kind = VK at *
        simp only [xDep] at hB'
        simp [h0, h1, h4, hb4, hb11, hb13, h6, h7, hg1, hre, hkb, w0, w1, b1, b2, b3, b4, hp1, hix0, hev, hkey, h3, h4k, lookV, ex3_0, ex3_1, ex3_2, ex2_0, ex2_1, bl, mkI]
        refine hB' _ ?_ ?_ ?_ ?_ <;> simp [lookV, h4, hb4]
end Go.Proofs.YticoldgiebmmgaaGreatDoor.Abs

/- Names that lead into a right document: LookupErr. -/
namespace Go.Proofs.YticoldgiebmmgaaGreatDoor.Abs
set_option linter.all false
open Go.Proofs
set_option linter.unusedVariables false
set_option linter.unusedSimpArgs false
set_option maxRecDepth 100000
set_option maxHeartbeats 8000000

theorem lookE_cases (s : Nat → Nat × Nat) (p : List (List UInt8)) (v : Tr) (a : List UInt8) : (if p = [] then AV.nilI else if v.kind = 3 ∨ v.kind = 4 then lookE s p v.kids else xDep a v.kind) = .nilI ∨
    (if p = [] then AV.nilI else if v.kind = 3 ∨ v.kind = 4 then lookE s p v.kids else xDep a v.kind) = sE (s 1) ∨ ∃ x k, (if p = [] then AV.nilI else if v.kind = 3 ∨ v.kind = 4 then lookE s p v.kids else xDep a v.kind) = xDep x k := by
  by_cases hp : p = []
  · rw [if_pos hp]; exact .inl rfl
  · rw [if_neg hp]
    by_cases hk : v.kind = 3 ∨ v.kind = 4
    · rw [if_pos hk]
      rcases look_cases s p v.kids hp with ⟨_, h | h⟩ | ⟨_, _, h⟩
      · exact .inr (.inl h)
      · exact .inr (.inr h)
      · exact .inl h
    · rw [if_neg hk]; exact .inr (.inr ⟨_, _, rfl⟩)
def lookK (o : Option Tr) : Int := match o with | some v => v.kind | none => 0
def lookB (o : Option Tr) : Option (List UInt8) := match o with | some v => some v.val | none => none
theorem lookV_eq (o : Option Tr) : lookV o = [.int .u8 (lookK o), bAV 5 (lookB o)] := by cases o <;> rfl
theorem lookV_cases (o : Option Tr) : ∃ k b, lookV o = [.int .u8 k, bAV 5 b] := ⟨_, _, lookV_eq o⟩
theorem c_LookupErr {s : Nat → Nat × Nat} : ∀ (p : List (List UInt8)), p ≠ [] → p.length ≤ 1000 → ∀ ks : Ks, ks.good → ks.sz ≤ 90000 → ∀ hE : H, Sens hE.Γ s →
    callω fns 66 [bAV 5 (some ks.doc), (strsR p).fv 9 1] hE = some (.tup [.agg (lookV (lookT p ks)), lookE s p ks], hE)
  | [], h, _, _, _, _, _, _ => absurd rfl h
  | a :: p, _, hpl, K, hg, hs, hE, hS => by
    have hrec : p ≠ [] → ∀ ks : Ks, ks.good → ks.sz ≤ 90000 → ∀ hE : H, Sens hE.Γ s → callω fns 66 [bAV 5 (some ks.doc), (strsR p).fv 9 1] hE = some (.tup [.agg (lookV (lookT p ks)), lookE s p ks], hE) :=
      fun hp ks h1 h2 hE hS => c_LookupErr p hp (by simp at hpl; omega) ks h1 h2 hE hS
    have hsr := SR1_of a p
    generalize strsR p = b' at *
    generalize strsR (a :: p) = b at *
    obtain ⟨n1, n2⟩ := doc_num K (by omega)
    have hlen := Ks.doc_length K
    have hb := Ks.body_le K
    have hsz : K.sz = K.nb + 18 * K.nodes := rfl
    have hR := c_RLen (some K.doc)
    simp only [bl] at hR
    have hk : okL K.doc = true := by unfold okL; rw [n1, hlen]; simp; omega
    rw [n1, hk, rest4_some (by omega), n2] at hR
    have b2 := hsr.len
    have hp1 : ¬ (((p.length + 1 : Nat) : Int) < 1) := by omega
    have w1 : IntKind.i32.wrap ((K.body.length : Int) + 5 - 4) = K.body.length + 1 := by rw [i32_small (by omega) (by omega)]; omega
    simp only [lookT, lookE]
    have hg1 := hS.g1
    simp only [sE] at hg1
    generalize ((p.length + 1 : Nat) : Int) = PL at *
    refine run66 (Nat.le_of_ble_eq_true rfl) ?_
    simp [hR, b2, hp1, w1, ex3_0, ex3_1, ex3_2]
    refine l_Lookup (K := K) (p := p) hsr (by simp at hpl; omega) hrec K _ ?_ ?_ ?_ ?_ ?_ ?_ ?_ ?_ hg (by omega) ?_ _ (fun hf st' q1 q2 q3 => ?_) (fun v hf st' q1 q2 q3 q4 => ?_)
    · simp
    · simp
    · simp
    · simp
    · simp
    · simp
    · simp
    · simp
    · exact hS
    · rw [hf]
      simp [q1, q2, q3, hg1, glV, sE, lookV]
    · rw [hf]
      simp only
      have h5 := lookE_cases s p v a
      obtain ⟨k, o, hlv⟩ := lookV_cases (if p = [] then some v else if v.kind = 3 ∨ v.kind = 4 then lookT p v.kids else none)
      rw [hlv] at q3 ⊢
      generalize (if p = [] then AV.nilI else if v.kind = 3 ∨ v.kind = 4 then lookE s p v.kids else xDep a v.kind) = E5 at *
      rcases h5 with rfl | rfl | ⟨x, k, rfl⟩ <;> (try simp only [sE, xDep] at q4 ⊢) <;> simp [q1, q2, q3, q4]
end Go.Proofs.YticoldgiebmmgaaGreatDoor.Abs
