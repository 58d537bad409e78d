/- EB5, EB6, EB8 -/
import Derived.Test.YtdnfnobgeddbfaaGreatDoorEB4
/- Documents of any bytes: values, the element with a number; whether they are valid; codes of errors. -/
namespace Go.Proofs.YtdnfnobgeddbfaaGreatDoor.Abs
set_option linter.all false
open Go.Proofs
set_option linter.unusedVariables false
set_option linter.unusedSimpArgs false
set_option maxRecDepth 100000
set_option maxHeartbeats 8000000

theorem eVal_ok {l : List UInt8} {m : Nat} (h : eGet l = some m) (hk : eOk (l.take m) = true) : eVal (l.take m) = .agg (kvC 5 (l.take m)) ∧ (vGet (kv (l.take m)).1 (kv (l.take m)).2).isSome = true := by
  obtain ⟨t, r, i, n, rfl, hn, hv, rfl, hle, hp⟩ := eParts_take h
  unfold eOk at hk
  simp only [hp] at hk
  cases hg : vGet (t.toNat : Int) ((r.drop (i + 1)).take n) with
  | none => rw [hg] at hk; cases hk
  | some q =>
    have hq := vGet_cut hv (by rw [List.length_drop]; omega) hg
    subst hq
    unfold eVal kvC kv
    simp only [hp, hg, Option.isSome_some, if_true, vData, bl, Option.map_some, List.take_take, Nat.min_self]
    exact ⟨trivial, trivial⟩
theorem eVal_no {l : List UInt8} {m : Nat} (h : eGet l = some m) (hk : eOk (l.take m) = false) : eVal (l.take m) = .agg [.int .u8 0, bAV 5 none] := by
  obtain ⟨t, r, i, n, rfl, hn, hv, rfl, hle, hp⟩ := eParts_take h
  unfold eOk at hk
  simp only [hp] at hk
  unfold eVal
  simp only [hp, hk, Bool.false_eq_true, if_false]
theorem vGet0 : vGet 0 [] = none := rfl

theorem l_values {o : Option (List UInt8)} : ∀ (f : Nat) (n : Int) (l : List UInt8) (pre : RS) (st : St), st.s 0 = bAV 5 o → st.s 4 = .int .i32 n → st.s 5 = bAV 5 (some l) → st.s 8 = pre.av 86 2 →
    l.length < f → l.length < 2147483648 → -2147483648 ≤ n → n < 2147483648 → pre.l.length + 2 * l.length < 6442450944 → ∀ Q : Ex × St → Prop,
    ((elemsR f n l).2 = true → ∀ st' : St, st'.h = st.h → st'.s 8 = (pre.app (valsC 5 (elemsR f n l).1)).av 86 2 → Q (.exit 0, st')) →
    ((elemsR f n l).2 = false → ∀ st' : St, st'.h = st.h → st'.s 2 = (pre.app (valsC 5 (elemsR f n l).1)).av 86 2 → st'.s 3 = xFew (elemsE (fun _ => none) o f n l).1 (elemsE (fun _ => none) o f n l).2 → Q (.ret, st')) → LoopR fns lc45_0 st Q
  | 0, n, l, pre, st, h0, h4, h5, h8, hf, hl, hn0, hn1, hp, Q, hA, hB => by omega
  | f + 1, n, l, pre, st, h0, h4, h5, h8, hf, hl, hn0, hn1, hp, Q, hA, hB => by
    refine loopω_run fns ?_
    by_cases hn : n ≤ 1
    · have g : ¬ (1 < n) := by omega
      simp only [elemsR, hn, if_true] at hA
      simp [h4, g]
      refine hA (by simp) _ ?_ ?_ <;> simp [h8, RS.app_nil, valsC]
    · have g : 1 < n := by omega
      have hr := c_ReadElement l hl
      cases he : eGet l with
      | none =>
        have e : eRes l = .tup [bAV 5 none, bAV 5 (some l), .bool false] := by simp [eRes, he]
        rw [e] at hr
        have hi := c_NewIBE o (some l)
        simp only [elemsR, elemsE, hn, if_false, he] at hB
        have w0 : IntKind.i32.wrap 0 = 0 := rfl
        have w1 : IntKind.i32.wrap n = n := i32_small hn0 hn1
        simp [xFew, h0, h4, h5, h8, g, hr, hi, mk_few, ex3_0, ex3_1, ex3_2, bl, w0, w1]
        refine hB (by simp) _ ?_ ?_ ?_ <;> simp [RS.app_nil, xFew, valsC]
      | some m =>
        have hm := eGet_le he
        have e : eRes l = .tup [bAV 5 (some (l.take m)), bAV 5 (some (l.drop m)), .bool true] := by simp [eRes, he]
        rw [e] at hr
        have hX : (l.take m).length = m := by simp; omega
        have hY : (l.drop m).length = l.length - m := by simp
        have w0 : IntKind.i32.wrap (m : Int) = m := i32_small (by omega) (by omega)
        have w1 : IntKind.i32.wrap (n - m) = n - m := i32_small (by omega) (by omega)
        simp only [elemsR, elemsE, hn, if_false, he] at hA hB
        have hev := c_ElemValue (l.take m) (by omega)
        cases hk : eOk (l.take m) with
        | false =>
          have hv := c_ValValidate 0 none (by simp [bl])
          rw [eVal_no he hk] at hev
          have hx : xVal 0 none = xFew none none := by simp [xVal, bl, vGet0]
          rw [hx] at hv
          simp only [hk, Bool.false_eq_true, if_false, xFew] at hv hB
          generalize l.take m = X at *
          simp [xFew, h0, h4, h5, h8, g, hr, hev, hv, ex3_0, ex3_1, ex3_2, bl, hX, w0, w1]
          refine hB (by simp) _ ?_ ?_ ?_ <;> simp [RS.app_nil, xFew, valsC]
        | true =>
          obtain ⟨e1, e2⟩ := eVal_ok he hk
          rw [e1] at hev
          simp only [hk, if_true] at hA hB
          generalize l.take m = X at *
          have hkl : (kv X).2.length < 2147483648 := by
            have : (kv X).2.length ≤ X.length := by
              unfold kv
              cases X with
              | nil => simp [eParts]
              | cons t r =>
                simp only [eParts]
                cases nul r with
                | none => simp
                | some i => simp; omega
            omega
          have hv := c_ValValidate (kv X).1 (some (kv X).2) hkl
          have hx : xVal (kv X).1 (some (kv X).2) = .nilI := by simp [xVal, bl, e2]
          rw [hx] at hv
          have ha : ∀ hp : H, apV hp 86 2 32 false (pre.av 86 2) (.slice (.own true) 86 2 [.int .u8 (kv X).1, bAV 5 (some (kv X).2)]) = some ((pre.app [.int .u8 (kv X).1, bAV 5 (some (kv X).2)]).av 86 2) := fun hp =>
            RS.apV (by simp only [List.length_cons, List.length_nil, tooLong]; omega) (by simp only [List.length_cons, List.length_nil, tooLong]; omega)
          simp only [kvC] at hev
          have hvc : ∀ es, valsC 5 (X :: es) = [.int .u8 (kv X).1, bAV 5 (some (kv X).2)] ++ valsC 5 es := fun _ => rfl
          generalize (kv X).1 = K at *
          generalize (kv X).2 = D at *
          simp [h0, h4, h5, h8, g, hr, hev, hv, ex3_0, ex3_1, ex3_2, bl, hX, w0, w1, ha]
          refine l_values (o := o) f (n - m) (l.drop m) (pre.app [.int .u8 K, bAV 5 (some D)]) _ ?_ ?_ ?_ ?_ ?_ ?_ (by omega) (by omega) ?_ Q (fun hb st' k1 k2 => hA hb st' ?_ ?_) (fun hb st' k1 k2 k3 => hB hb st' ?_ ?_ ?_)
          · simp [h0]
          · simp
          · simp
          · simp
          · omega
          · omega
          · rw [RS.l_app]; simp only [List.length_append, List.length_cons, List.length_nil]; omega
          · rw [k1]
          · rw [k2, RS.app_app, hvc]
          · rw [k1]
          · rw [k2, RS.app_app, hvc]
          · exact k3
theorem c_values (l : List UInt8) (hl : l.length < 2147483648) : ∀ hE : H, callω fns 45 [bAV 5 (some l)] hE =
    some (if okL l then .tup [(RS.mk (valsC 5 (dR l).1)).av 86 2, if (dR l).2 then .nilI else xFew (dE (fun _ => none) l).1 (dE (fun _ => none) l).2] else .tup [.slice .nil 0 1 [], xFew (some l) (rest4 (some l))], hE) := by
  intro hE
  have hR := c_RLen (some l)
  simp only [bl] at hR
  by_cases hk : okL l = true
  case neg =>
    simp only [Bool.not_eq_true] at hk
    have hi := c_NewIBE (some l) (rest4 (some l))
    rw [hk] at hR
    generalize rest4 (some l) = R at *
    refine run45 (Nat.le_of_ble_eq_true rfl) ?_
    simp [hR, hk, hi, xFew, mkI, ex3_0, ex3_1, ex3_2]
  case pos =>
    obtain ⟨h4, h0⟩ := okL_le hk
    rw [hk, rest4_some h4] at hR
    have hr := num32_range l
    have w : IntKind.i32.wrap (num32 l - 4) = num32 l - 4 := i32_small (by omega) (by omega)
    have hd : (l.drop 4).length = l.length - 4 := by simp
    rw [if_pos hk]
    unfold dR dE
    generalize hN : num32 l = N at *
    generalize hL : l.drop 4 = L at *
    refine run45 (Nat.le_of_ble_eq_true rfl) ?_
    simp [hR, w, ex3_0, ex3_1, ex3_2]
    refine l_values (o := some l) (l.length + 1) (N - 4) L RS.nil _ ?_ ?_ ?_ ?_ (by omega) (by omega) (by omega) (by omega) ?_ _ (fun hb st' k1 k2 => ?_) (fun hb st' k1 k2 k3 => ?_)
    · simp
    · simp
    · simp
    · simp [RS.av]
    · simp [RS.l]; omega
    · simp [k1, k2, hb, RS.nil_app]
    · simp only [xFew] at k3
      simp [k1, k2, k3, hb, RS.nil_app, xFew]

/-! ### Whether it is valid -/
def sLen : List UInt8 := [100, 111, 99, 117, 109, 101, 110, 116, 32, 111, 114, 32, 97, 114, 114, 97, 121, 32, 108, 101, 110, 103, 116, 104, 32, 105, 115, 32, 105, 110, 118, 97, 108, 105, 100]
def sNull : List UInt8 := [100, 111, 99, 117, 109, 101, 110, 116, 32, 111, 114, 32, 97, 114, 114, 97, 121, 32, 101, 110, 100, 32, 105, 115, 32, 109, 105, 115, 115, 105, 110, 103, 32, 110, 117, 108, 108, 32, 98, 121, 116, 101]
def xVE (s : List UInt8) : AV := .iface 97 (.str s)
def endX : List UInt8 → AV
  | [] => xVE sNull
  | c :: _ => if c = 0 then .nilI else xVE sNull
theorem l_Validate {o : Option (List UInt8)} : ∀ (f : Nat) (n : Int) (l : List UInt8) (st : St), st.s 0 = bAV 5 o → st.s 3 = .int .i32 n → st.s 4 = bAV 5 (some l) →
    l.length < f → l.length < 2147483648 → -2147483648 ≤ n → n < 2147483648 → ∀ Q : Ex × St → Prop,
    ((elemsR f n l).2 = true → ∀ st' : St, st'.h = st.h → st'.s 4 = bAV 5 (some (elemsT f n l)) → Q (.exit 0, st')) →
    ((elemsR f n l).2 = false → ∀ st' : St, st'.h = st.h → st'.s 2 = xFew (elemsE eDat o f n l).1 (elemsE eDat o f n l).2 → Q (.ret, st')) → LoopR fns lc25_0 st Q
  | 0, n, l, st, h0, h4, h5, hf, hl, hn0, hn1, Q, hA, hB => by omega
  | f + 1, n, l, st, h0, h4, h5, hf, hl, hn0, hn1, Q, hA, hB => by
    refine loopω_run fns ?_
    by_cases hn : n ≤ 1
    · have g : ¬ (1 < n) := by omega
      simp only [elemsR, elemsT, hn, if_true] at hA
      simp [h4, g]
      refine hA (by simp) _ ?_ ?_ <;> simp [h5]
    · have g : 1 < n := by omega
      have hr := c_ReadElement l hl
      cases he : eGet l with
      | none =>
        have e : eRes l = .tup [bAV 5 none, bAV 5 (some l), .bool false] := by simp [eRes, he]
        rw [e] at hr
        have hi := c_NewIBE o (some l)
        simp only [elemsR, elemsE, hn, if_false, he] at hB
        have w0 : IntKind.i32.wrap 0 = 0 := rfl
        have w1 : IntKind.i32.wrap n = n := i32_small hn0 hn1
        simp [xFew, h0, h4, h5, g, hr, hi, mk_few, ex3_0, ex3_1, ex3_2, bl, w0, w1]
        refine hB (by simp) _ ?_ ?_ <;> simp [xFew]
      | some m =>
        have hm := eGet_le he
        have e : eRes l = .tup [bAV 5 (some (l.take m)), bAV 5 (some (l.drop m)), .bool true] := by simp [eRes, he]
        rw [e] at hr
        have hv := c_ElemV he hl
        have hX : (l.take m).length = m := by simp; omega
        have hY : (l.drop m).length = l.length - m := by simp
        have w0 : IntKind.i32.wrap (m : Int) = m := i32_small (by omega) (by omega)
        have w1 : IntKind.i32.wrap (n - m) = n - m := i32_small (by omega) (by omega)
        simp only [elemsR, elemsE, elemsT, hn, if_false, he] at hA hB
        cases hk : eOk (l.take m) with
        | false =>
          simp only [hk, Bool.false_eq_true, if_false, xFew] at hv hB
          generalize l.take m = X at *
          generalize eDat X = d at *
          simp [xFew, h0, h4, h5, g, hr, hv, ex3_0, ex3_1, ex3_2, bl, hX, w0, w1]
          refine hB (by simp) _ ?_ ?_ <;> simp [xFew]
        | true =>
          simp only [hk, if_true] at hv hA hB
          generalize l.take m = X at *
          simp [h0, h4, h5, g, hr, hv, ex3_0, ex3_1, ex3_2, bl, hX, w0, w1]
          refine l_Validate (o := o) f (n - m) (l.drop m) _ ?_ ?_ ?_ ?_ ?_ (by omega) (by omega) Q (fun hb st' k1 k2 => hA hb st' ?_ ?_) (fun hb st' k1 k2 => hB hb st' ?_ ?_)
          · simp [h0]
          · simp
          · simp
          · omega
          · omega
          · rw [k1]
          · exact k2
          · rw [k1]
          · exact k2
def docX (l : List UInt8) : AV :=
  if okL l = false then xFew (some l) (rest4 (some l)) else if (l.length : Int) < num32 l then xVE [100, 111, 99, 117, 109, 101, 110, 116, 32, 108, 101, 110, 103, 116, 104, 32, 101, 120, 99, 101, 101, 100, 115, 32, 97, 118, 97, 105, 108, 97, 98, 108, 101, 32, 98, 121, 116, 101, 115]
  else if num32 l < 5 then xVE sLen else if (l[(num32 l - 1).toNat]?) ≠ some 0 then xVE sNull
  else if (dR l).2 = false then xFew (dE eDat l).1 (dE eDat l).2 else endX (elemsT (l.length + 1) (num32 l - 4) (l.drop 4))
theorem c_lenErr (a b : Int) : ∀ hE : H, callω fns 43 [.int .i64 a, .int .i64 b] hE = some (xVE [100, 111, 99, 117, 109, 101, 110, 116, 32, 108, 101, 110, 103, 116, 104, 32, 101, 120, 99, 101, 101, 100, 115, 32, 97, 118, 97, 105, 108, 97, 98, 108, 101, 32, 98, 121, 116, 101, 115], hE) := by
  intro hE
  have h1 : ∀ hE : H, callω fns 63 [.str [100, 111, 99, 117, 109, 101, 110, 116], .int .i64 a, .int .i64 b] hE = some (xVE [100, 111, 99, 117, 109, 101, 110, 116, 32, 108, 101, 110, 103, 116, 104, 32, 101, 120, 99, 101, 101, 100, 115, 32, 97, 118, 97, 105, 108, 97, 98, 108, 101, 32, 98, 121, 116, 101, 115], hE) := by
    intro hE
    refine run63 (Nat.le_of_ble_eq_true rfl) ?_
    simp [mkI, xVE, maxLen]
  refine run43 (Nat.le_of_ble_eq_true rfl) ?_
  simp [h1, xVE]
theorem c_DocValidate (l : List UInt8) (hl : l.length < 2147483648) : ∀ hE : H, callω fns 25 [bAV 5 (some l)] hE = some (docX l, hE) := by
  intro hE
  have hR := c_RLen (some l)
  simp only [bl] at hR
  unfold docX
  by_cases hk : okL l = true
  case neg =>
    simp only [Bool.not_eq_true] at hk
    have hi := c_NewIBE (some l) (rest4 (some l))
    rw [hk] at hR
    generalize rest4 (some l) = R at *
    refine run25 (Nat.le_of_ble_eq_true rfl) ?_
    simp [hR, hk, hi, xFew, mkI, ex3_0, ex3_1, ex3_2]
  case pos =>
    obtain ⟨h4, h0⟩ := okL_le hk
    rw [hk, rest4_some h4] at hR
    have hr := num32_range l
    have w : IntKind.i32.wrap (num32 l - 4) = num32 l - 4 := i32_small (by omega) (by omega)
    have w64 : IntKind.i64.wrap (num32 l) = num32 l := wrap_i64 (by omega) (by omega)
    have w1 : IntKind.i32.wrap (num32 l - 1) = num32 l - 1 := i32_small (by omega) (by omega)
    have hd : (l.drop 4).length = l.length - 4 := by simp
    have hle := c_lenErr (num32 l) l.length
    have hk' : ¬ (okL l = false) := by simp [hk]
    rw [if_neg hk']
    refine run25 (Nat.le_of_ble_eq_true rfl) ?_
    by_cases c1 : (l.length : Int) < num32 l
    · rw [if_pos c1]
      generalize num32 l = N at *
      generalize l.drop 4 = L at *
      simp only [xVE] at hle
      simp [hR, w64, ex3_0, ex3_1, ex3_2, bl, c1, hle, xVE]
    rw [if_neg c1]
    by_cases c2 : num32 l < 5
    · rw [if_pos c2]
      generalize num32 l = N at *
      generalize l.drop 4 = L at *
      simp [hR, w64, ex3_0, ex3_1, ex3_2, bl, c1, c2, mkI, xVE, sLen]
    rw [if_neg c2]
    have hlt : (num32 l - 1).toNat < l.length := by omega
    have hix : ixV 1 (bAV 5 (some l)) (.int .i32 (((num32 l - 1).toNat : Nat) : Int)) = some (.eptr (.int .u8 (l[(num32 l - 1).toNat].toNat : Int) :: byteCells (l.drop ((num32 l - 1).toNat + 1)))) := bAV_at (e := 5) hlt
    have ei : (((num32 l - 1).toNat : Nat) : Int) = num32 l - 1 := by omega
    rw [ei] at hix
    rw [List.getElem?_eq_getElem hlt]
    generalize l[(num32 l - 1).toNat] = c at *
    by_cases c3 : c = 0
    case neg =>
      have c3' : ¬ c.toNat = 0 := fun e => c3 (UInt8.toNat_inj.1 e)
      rw [if_pos (by simp [c3])]
      generalize num32 l = N at *
      generalize l.drop 4 = L at *
      simp [hR, w64, w1, ex3_0, ex3_1, ex3_2, bl, c1, c2, hix, c3', mkI, xVE, sNull]
    subst c3
    rw [if_neg (by simp)]
    unfold dR dE
    generalize hN : num32 l = N at *
    generalize hL : l.drop 4 = L at *
    simp [hR, w64, w1, w, ex3_0, ex3_1, ex3_2, bl, c1, c2, hix]
    refine l_Validate (o := some l) (l.length + 1) (N - 4) L _ ?_ ?_ ?_ (by omega) (by omega) (by omega) (by omega) _ (fun hb st' k1 k2 => ?_) (fun hb st' k1 k2 => ?_)
    · simp
    · simp
    · simp
    · generalize elemsT (l.length + 1) (N - 4) L = T at *
      cases T with
      | nil => simp [k1, k2, hb, endX, bl, mkI, xVE, sNull, pkV, AV.several]
      | cons c r =>
        have g : ¬ ((r.length : Int) + 1 < 1) := by omega
        by_cases hc : c = 0
        · have hc' : c.toNat = 0 := by rw [hc]; rfl
          simp [k1, k2, hb, endX, bl, hc, g, ix_head, pkV, AV.several]
        · have hc' : ¬ c.toNat = 0 := fun e => hc (UInt8.toNat_inj.1 e)
          simp [k1, k2, hb, endX, bl, hc, hc', g, ix_head, mkI, xVE, sNull, pkV, AV.several]
    · simp only [xFew] at k2
      simp [k1, k2, hb, xFew]
end Go.Proofs.YtdnfnobgeddbfaaGreatDoor.Abs

/- Sentinels; the codes of errors; what is copied. -/
namespace Go.Proofs.YtdnfnobgeddbfaaGreatDoor.Abs
set_option linter.all false
open Go.Proofs
set_option linter.unusedVariables false
set_option linter.unusedSimpArgs false
set_option maxRecDepth 100000
set_option maxHeartbeats 8000000

/-! ### Sentinels -/
def sE (p : Nat × Nat) : AV := .iface 153 (.sen p.1 p.2)
structure Sens (Γ : Nat → Option (List AV)) (s : Nat → Nat × Nat) : Prop where
  g0 : Γ 0 = some [sE (s 0)]
  g1 : Γ 1 = some [sE (s 1)]
  g2 : Γ 2 = some [sE (s 2)]
  g3 : Γ 3 = some [sE (s 3)]
  ne : ∀ i j, i < 4 → j < 4 → i ≠ j → s i ≠ s j
theorem c_Is (a b : Nat × Nat) (hE : H) : callω fns 42 [sE a, sE b] hE = some (.bool (decide (a = b)), hE) := by
  refine callω_x fns (af := af42) rfl (Nat.le_of_ble_eq_true rfl) ?_
  show isX [sE a, sE b] hE = _
  obtain ⟨a1, a2⟩ := a
  obtain ⟨b1, b2⟩ := b
  simp only [isX, sE, and_self, if_true, Prod.mk.injEq]
  congr 2
  by_cases h1 : a1 = b1 <;> by_cases h2 : a2 = b2 <;> simp [h1, h2]
def senC (i : Nat) : Int := if i = 0 then 7 else if i = 1 then 7 else if i = 2 then 8 else 11
theorem c_code_sen {s : Nat → Nat × Nat} {i : Nat} (hi : i < 4) {hE : H} (hS : Sens hE.Γ s) : callω fns 23 [sE (s i)] hE = some (.int .i64 (senC i), hE) := by
  obtain ⟨g0, g1, g2, g3, ne⟩ := hS
  refine run23 (Nat.le_of_ble_eq_true rfl) ?_
  have hI := c_Is
  have q : ∀ j, j < 4 → (decide (s i = s j)) = decide (i = j) := fun j hj => by
    by_cases h : i = j
    · subst h; simp
    · simp [h, ne i j hi hj h]
  have q0 := q 0 (by omega); have q1 := q 1 (by omega); have q2 := q 2 (by omega); have q3 := q 3 (by omega)
  have e : ∀ p, sE p = .iface 153 (.sen p.1 p.2) := fun _ => rfl
  simp only [e] at hI g0 g1 g2 g3 ⊢
  rcases (by omega : i = 0 ∨ i = 1 ∨ i = 2 ∨ i = 3) with rfl | rfl | rfl | rfl <;>
    simp only [Nat.reduceEqDiff, decide_true, decide_false] at q0 q1 q2 q3 <;>
    simp [taOk, exV, g0, g1, g2, g3, glV, hI, q0, q1, q2, q3, senC]
theorem c_code_nil : ∀ hE : H, callω fns 23 [.nilI] hE = some (.int .i64 0, hE) := c_code .nil
theorem c_code_few (a b) : ∀ hE : H, callω fns 23 [xFew a b] hE = some (.int .i64 1, hE) := c_code (.few a b)
theorem c_code_V (s : List UInt8) : ∀ hE : H, callω fns 23 [xVE s] hE = some (.int .i64 (if s = sLen then 2 else if s = sNull then 3 else 4), hE) := by
  intro hE
  refine run23 (Nat.le_of_ble_eq_true rfl) ?_
  by_cases h1 : s = sLen
  · simp [xVE, h1, taOk, exV, sLen]
  by_cases h2 : s = sNull
  · simp [xVE, h1, h2, taOk, exV, sLen, sNull]
  have h1' : (s == sLen) = false := by simpa using h1
  have h2' : (s == sNull) = false := by simpa using h2
  simp only [sLen] at h1 h1'
  simp only [sNull] at h2 h2'
  simp [xVE, h1, h2, h1', h2', taOk, exV, sLen, sNull]

def docC (l : List UInt8) : Int :=
  if okL l = false then 1 else if (l.length : Int) < num32 l then 4 else if num32 l < 5 then 2 else if (l[(num32 l - 1).toNat]?) ≠ some 0 then 3
  else if (dR l).2 = false then 1 else match elemsT (l.length + 1) (num32 l - 4) (l.drop 4) with | [] => 3 | c :: _ => if c = 0 then 0 else 3
theorem c_code_doc (l : List UInt8) : ∀ hE : H, callω fns 23 [docX l] hE = some (.int .i64 (docC l), hE) := by
  intro hE
  unfold docX docC
  split
  · exact c_code_few _ _ hE
  split
  · rw [c_code_V]; rfl
  split
  · rw [c_code_V]; rfl
  split
  · rw [c_code_V]; rfl
  split
  · exact c_code_few _ _ hE
  cases elemsT (l.length + 1) (num32 l - 4) (l.drop 4) with
  | nil => simp only [endX]; rw [c_code_V]; rfl
  | cons c r =>
    simp only [endX]
    split
    · exact c_code_nil hE
    · rw [c_code_V]; rfl
theorem docX_cases (l : List UInt8) : docX l = .nilI ∨ (∃ a b, docX l = xFew a b) ∨ ∃ s, docX l = xVE s := by
  unfold docX
  split
  · exact .inr (.inl ⟨_, _, rfl⟩)
  split
  · exact .inr (.inr ⟨_, rfl⟩)
  split
  · exact .inr (.inr ⟨_, rfl⟩)
  split
  · exact .inr (.inr ⟨_, rfl⟩)
  split
  · exact .inr (.inl ⟨_, _, rfl⟩)
  cases elemsT (l.length + 1) (num32 l - 4) (l.drop 4) with
  | nil => exact .inr (.inr ⟨_, rfl⟩)
  | cons c r =>
    simp only [endX]
    split
    · exact .inl rfl
    · exact .inr (.inr ⟨_, rfl⟩)
theorem c_own (o : Option (List UInt8)) (h : (bl o).length < 2147483648) : ∀ hE : H, callω fns 21 [bAV 5 o] hE = some ((BS.mk (bl o)).av 5, hE) := by
  intro hE
  have ha : ∀ hp : H, apV hp 5 1 1 false (.slice .nil 0 1 []) (bAV 5 o) = some ((BS.mk (bl o)).av 5) := fun hp => by
    have := apV_b (hp := hp) (e := 5) (b := BS.nil) (o := o) (by simp only [BS.l, List.length_nil, tooLong]; omega)
    rw [BS.nil_app] at this; exact this
  refine run21 (Nat.le_of_ble_eq_true rfl) ?_
  simp [ha]

end Go.Proofs.YtdnfnobgeddbfaaGreatDoor.Abs

/- The element with a number, of a document of any bytes. -/
namespace Go.Proofs.YtdnfnobgeddbfaaGreatDoor.Abs
set_option linter.all false
open Go.Proofs
set_option linter.unusedVariables false
set_option linter.unusedSimpArgs false
set_option maxRecDepth 100000
set_option maxHeartbeats 8000000

theorem l_indexErr {o : Option (List UInt8)} {k : Nat} (hk64 : k < 18446744073709551616) : ∀ (f : Nat) (n : Int) (l : List UInt8) (c j : Nat) (st : St), st.s 0 = bAV 5 o → st.s 1 = .int .u64 k → st.s 6 = .int .i32 n → st.s 7 = bAV 5 (some l) → st.s 9 = .int .u64 c → c + j = k →
    l.length < f → l.length < 2147483648 → -2147483648 ≤ n → n < 2147483648 → ∀ Q : Ex × St → Prop,
    ((elemAt f n l j).1 = 2 → ∀ st' : St, st'.h = st.h → Q (.exit 0, st')) →
    ((elemAt f n l j).1 = 1 → ∀ st' : St, st'.h = st.h → st'.s 4 = bAV 5 none → st'.s 5 = xFew o (some (elemAt f n l j).2) → Q (.ret, st')) →
    ((elemAt f n l j).1 = 0 → ∀ st' : St, st'.h = st.h → st'.s 4 = bAV 5 (some (elemAt f n l j).2) → st'.s 5 = .nilI → Q (.ret, st')) → LoopR fns lc46_0 st Q
  | 0, n, l, c, j, st, h0, h1, h4, h5, h9, hc, hf, hl, hn0, hn1, Q, hA, hB, hC => by omega
  | f + 1, n, l, c, j, st, h0, h1, h4, h5, h9, hc, hf, hl, hn0, hn1, Q, hA, hB, hC => by
    refine loopω_run fns ?_
    have e0 : AV.slice .nil 0 1 [] = bAV 5 none := rfl
    by_cases hn : n ≤ 1
    · have g : ¬ (1 < n) := by omega
      simp only [elemAt, hn, if_true] at hA
      simp [h4, g]
      refine hA (by simp) _ ?_ <;> simp
    · have g : 1 < n := by omega
      have hr := c_ReadElement l hl
      cases he : eGet l with
      | none =>
        have e : eRes l = .tup [bAV 5 none, bAV 5 (some l), .bool false] := by simp [eRes, he]
        rw [e] at hr
        have hi := c_NewIBE o (some l)
        simp only [elemAt, hn, if_false, he] at hB
        have w0 : IntKind.i32.wrap 0 = 0 := rfl
        have w1 : IntKind.i32.wrap n = n := i32_small hn0 hn1
        simp [xFew, h0, h1, h4, h5, h9, g, hr, hi, mk_few, ex3_0, ex3_1, ex3_2, bl, w0, w1]
        refine hB (by simp) _ ?_ ?_ ?_ <;> simp [xFew, e0]
      | some m =>
        have hm := eGet_le he
        have e : eRes l = .tup [bAV 5 (some (l.take m)), bAV 5 (some (l.drop m)), .bool true] := by simp [eRes, he]
        rw [e] at hr
        have hX : (l.take m).length = m := by simp; omega
        have hY : (l.drop m).length = l.length - m := by simp
        have w0 : IntKind.i32.wrap (m : Int) = m := i32_small (by omega) (by omega)
        have w1 : IntKind.i32.wrap (n - m) = n - m := i32_small (by omega) (by omega)
        simp only [elemAt, hn, if_false, he] at hA hB hC
        generalize l.take m = X at *
        cases j with
        | zero =>
          have hck : (c : Int) = k := by omega
          simp only at hC
          simp [h0, h1, h4, h5, h9, g, hr, ex3_0, ex3_1, ex3_2, bl, hX, w0, w1, hck]
          refine hC (by simp) _ ?_ ?_ ?_ <;> simp
        | succ j =>
          have hck : ¬ (c : Int) = k := by omega
          have hck2 : ¬ c = k := by omega
          have w2 : IntKind.u64.wrap ((c : Int) + 1) = (c + 1 : Nat) := by simp [IntKind.wrap, IntKind.signed, IntKind.bits]; omega
          simp only at hA hB hC
          simp [h0, h1, h4, h5, h9, g, hr, ex3_0, ex3_1, ex3_2, bl, hX, w0, w1, hck, hck2, w2]
          refine l_indexErr hk64 (o := o) f (n - m) (l.drop m) (c + 1) j _ ?_ ?_ ?_ ?_ ?_ (by omega) (by omega) (by omega) (by omega) (by omega) Q (fun hb st' k1 => hA hb st' ?_) (fun hb st' k1 k2 k3 => hB hb st' ?_ k2 k3) (fun hb st' k1 k2 k3 => hC hb st' ?_ k2 k3)
          · simp [h0]
          · simp [h1]
          · simp
          · simp
          · simp
          · rw [k1]
          · rw [k1]
          · rw [k1]
def atR (l : List UInt8) (k : Nat) : Nat × List UInt8 := if okL l then elemAt (l.length + 1) (num32 l - 4) (l.drop 4) k else (3, [])
def atV (s : Nat → Nat × Nat) (l : List UInt8) (k : Nat) : AV :=
  if (atR l k).1 = 0 then .nilI else if (atR l k).1 = 1 then xFew (some l) (some (atR l k).2) else if (atR l k).1 = 2 then sE (s 0) else xFew (some l) (rest4 (some l))
def atE (l : List UInt8) (k : Nat) : Option (List UInt8) := if (atR l k).1 = 0 then some (atR l k).2 else none
theorem elemAt_lt : ∀ (f : Nat) (n : Int) (l : List UInt8) (k : Nat), (elemAt f n l k).1 < 3
  | 0, n, l, k => by simp [elemAt]
  | f + 1, n, l, k => by
    simp only [elemAt]
    split
    · simp
    · split
      · simp
      · split
        · simp
        · exact elemAt_lt f _ _ _
theorem c_indexErr (l : List UInt8) (hl : l.length < 2147483648) (k : Nat) (hk64 : k < 18446744073709551616) {s : Nat → Nat × Nat} {hE : H} (hS : Sens hE.Γ s) : callω fns 46 [bAV 5 (some l), .int .u64 k] hE =
    some (.tup [bAV 5 (atE l k), atV s l k], hE) := by
  have e0 : AV.slice .nil 0 1 [] = bAV 5 none := rfl
  have hR := c_RLen (some l)
  simp only [bl] at hR
  unfold atE atV atR
  by_cases hk : okL l = true
  case neg =>
    simp only [Bool.not_eq_true] at hk
    have hi := c_NewIBE (some l) (rest4 (some l))
    rw [hk] at hR
    generalize rest4 (some l) = R at *
    refine run46 (Nat.le_of_ble_eq_true rfl) ?_
    simp [hR, hk, hi, xFew, mkI, ex3_0, ex3_1, ex3_2, e0]
  case pos =>
    obtain ⟨h4, h0⟩ := okL_le hk
    rw [hk, rest4_some h4] at hR
    have hr := num32_range l
    have w : IntKind.i32.wrap (num32 l - 4) = num32 l - 4 := i32_small (by omega) (by omega)
    have hd : (l.drop 4).length = l.length - 4 := by simp
    simp only [hk, if_true]
    have hlt := elemAt_lt (l.length + 1) (num32 l - 4) (l.drop 4) k
    generalize hN : num32 l = N at *
    generalize hL : l.drop 4 = L at *
    refine run46 (Nat.le_of_ble_eq_true rfl) ?_
    simp [hR, w, ex3_0, ex3_1, ex3_2]
    refine l_indexErr (o := some l) hk64 (l.length + 1) (N - 4) L 0 k _ ?_ ?_ ?_ ?_ ?_ (by omega) (by omega) (by omega) (by omega) (by omega) _ (fun hb st' k1 => ?_) (fun hb st' k1 k2 k3 => ?_) (fun hb st' k1 k2 k3 => ?_)
    · simp
    · simp
    · simp
    · simp
    · simp
    · have hg := hS.g0
      simp [k1, hb, hg, glV, sE, e0]
    · simp only [xFew] at k3
      simp [k1, k2, k3, hb, xFew]
    · simp [k1, k2, k3, hb]
theorem atV_cases (s : Nat → Nat × Nat) (l : List UInt8) (k : Nat) : (atV s l k = .nilI ∧ (atR l k).1 = 0) ∨ (∃ a b, atV s l k = xFew a b ∧ ((atR l k).1 = 1 ∨ (atR l k).1 = 3)) ∨ (atV s l k = sE (s 0) ∧ (atR l k).1 = 2) := by
  have hlt : (atR l k).1 = 0 ∨ (atR l k).1 = 1 ∨ (atR l k).1 = 2 ∨ (atR l k).1 = 3 := by
    unfold atR
    split
    · have := elemAt_lt (l.length + 1) (num32 l - 4) (l.drop 4) k; omega
    · simp
  unfold atV
  rcases hlt with h | h | h | h <;> rw [h]
  · exact .inl ⟨rfl, rfl⟩
  · exact .inr (.inl ⟨_, _, rfl, .inl rfl⟩)
  · exact .inr (.inr ⟨rfl, rfl⟩)
  · exact .inr (.inl ⟨_, _, rfl, .inr rfl⟩)
def atC (l : List UInt8) (k : Nat) : Int := if (atR l k).1 = 0 then 0 else if (atR l k).1 = 2 then 7 else 1
end Go.Proofs.YtdnfnobgeddbfaaGreatDoor.Abs
