/- What the law's function FnDocAnyElements computes. -/
import Derived.Test.YtcodfehgnjplcaaGreatDoorELowA
import Derived.Test.YtcodfehgnjplcaaGreatDoorEParts
import Derived.Test.YtcodfehgnjplcaaGreatDoorECopy2
namespace Go.Proofs.YtcodfehgnjplcaaGreatDoor.Abs
set_option linter.all false
open Go.Proofs
set_option linter.unusedVariables false
set_option linter.unusedSimpArgs false
set_option maxRecDepth 100000
set_option maxHeartbeats 8000000

theorem c_SameRaw2 (k k' : Int) (o o' : Option (List UInt8)) : ∀ hE : H, callω fns 20 [.agg [.int .i64 k, bAV 5 o], .int .i64 k', bAV 5 o'] hE = some (.bool (decide (k = k') && bl o == bl o'), hE) := by
  intro hE
  refine run20 (Nat.le_of_ble_eq_true rfl) ?_
  by_cases h : k = k'
  · simp [h]
  · simp [h]
theorem c_docModest (o : Option (List UInt8)) : ∀ hE : H, callω fns 15 [bAV 5 o] hE = some (.bool (decide ((bl o).length ≤ 5000)), hE) := by
  intro hE
  refine run15 (Nat.le_of_ble_eq_true rfl) ?_
  simp; omega
theorem l_FnDocAnyElements {E : List (List UInt8)} (hEl : E.length ≤ 5000) : ∀ (rest pre : List (List UInt8)) (W L M N : RS) (st : St), E = pre ++ rest → (st.s 3 = W.av 62 4 ∨ st.s 3 = W.fv 62 4) → W.l = partsC 5 E →
    st.s 5 = L.av 22 1 → L.l = rowsC 5 E → st.s 7 = M.av 32 2 → M.l = rawsC 5 E → st.s 9 = N.av 32 2 → N.l = rawsC 5 E → st.s 11 = .int .i64 pre.length →
    ∀ Q : Ex × St → Prop, (∀ st' : St, st'.h = st.h → Q (.exit 0, st')) → LoopR fns lc6_0 st Q
  | [], pre, W, L, M, N, st, hp, h3, hW, h5, hL, h7, hM, h9, hN, h11, Q, hA => by
    refine loopω_run fns ?_
    have hlw : W.l.length = pre.length * 4 := by rw [hW, partsC_length, hp]; simp
    have a1 : aLen false (W.av 62 4) = some (.int .i64 pre.length) := RS.av_len (by omega) hlw
    have a2 : aLen false (W.lv 62 4) = some (.int .i64 pre.length) := RS.lv_len (by omega) hlw
    have a3 : aLen false (W.fv 62 4) = some (.int .i64 pre.length) := RS.fv_len (by omega) hlw
    rcases h3 with h3 | h3 <;> simp [h3, h11, a1, a2, a3] <;> exact hA _ (by simp)
  | x :: rest, pre, W, L, M, N, st, hp, h3, hW, h5, hL, h7, hM, h9, hN, h11, Q, hA => by
    refine loopω_run fns ?_
    have hlen : E.length = pre.length + (rest.length + 1) := by rw [hp]; simp
    have hlw : W.l.length = (pre.length + (rest.length + 1)) * 4 := by rw [hW, partsC_length, hlen]
    have hlm : M.l.length = (pre.length + (rest.length + 1)) * 2 := by rw [hM, rawsC_length, hlen]
    have hln : N.l.length = (pre.length + (rest.length + 1)) * 2 := by rw [hN, rawsC_length, hlen]
    have hlt : (pre.length : Int) < pre.length + (rest.length + 1) := by omega
    have a1 : aLen false (W.av 62 4) = some (.int .i64 ((pre.length : Int) + (rest.length + 1))) := by have := RS.av_len (e := 62) (sz := 4) (b := W) (by omega) hlw; simpa using this
    have a2 : aLen false (W.lv 62 4) = some (.int .i64 ((pre.length : Int) + (rest.length + 1))) := by have := RS.lv_len (e := 62) (sz := 4) (b := W) (by omega) hlw; simpa using this
    have a3 : aLen false (W.fv 62 4) = some (.int .i64 ((pre.length : Int) + (rest.length + 1))) := by have := RS.fv_len (e := 62) (sz := 4) (b := W) (by omega) hlw; simpa using this
    have x1 : ixV 4 (W.fv 62 4) (.int .i64 (pre.length : Int)) = some (.eptr (partsC 5 (x :: rest))) := RS.fv_at4 (m := pre.length + (rest.length + 1)) (pre := partsC 5 pre) (by rw [hW, hp, partsC_append]) (by simp) hlw (by omega)
    have x2 := RS.fv_at' (e := 22) (b := L) (k := pre.length) (pre := rowsC 5 pre) (r := rowsC 5 rest) (x := bAV 5 (some x)) (by rw [hL, hp, rowsC_append]; rfl) (by simp)
    have x3 := RS.fv_at2 (e := 32) (b := M) (k := pre.length) (m := pre.length + (rest.length + 1)) (pre := rawsC 5 pre) (r := rawsC 5 (x :: rest)) (by rw [hM, hp, rawsC_append]) (by simp) hlm (by omega)
    have x4 := RS.fv_at2 (e := 32) (b := N) (k := pre.length) (m := pre.length + (rest.length + 1)) (pre := rawsC 5 pre) (r := rawsC 5 (x :: rest)) (by rw [hN, hp, rawsC_append]) (by simp) hln (by omega)
    rw [partsC_cons] at x1
    rw [rawsC_cons] at x3 x4
    have hsr := c_SameRaw2 (kv x).1 (kv x).1 (oB (kv x).2) (some (kv x).2)
    rw [bl_oB] at hsr
    have hbs : ∀ x : List UInt8, bl (some x) = x := fun _ => rfl
    simp only [decide_true, Bool.true_and, hbs, beq_self_eq_true] at hsr
    have hw : IntKind.i64.wrap ((pre.length : Int) + 1) = pre.length + 1 := wrap_i64 (by omega) (by omega)
    have hkey : ∀ st2 : St, st2.h = st.h → (st2.s 3 = W.sh.av 62 4 ∨ st2.s 3 = W.fv 62 4) → st2.s 5 = L.sh.av 22 1 → st2.s 7 = M.sh.av 32 2 → st2.s 9 = N.sh.av 32 2 → st2.s 11 = .int .i64 (pre.length + 1 : Nat) → LoopR fns lc6_0 st2 Q := by
      intro st2 q1 q3 q5 q7 q9 q11
      have q3' : st2.s 3 = W.sh.av 62 4 ∨ st2.s 3 = W.sh.fv 62 4 := by rw [RS.sh_fv]; exact q3
      refine l_FnDocAnyElements hEl rest (pre ++ [x]) W.sh L.sh M.sh N.sh st2 ?_ q3' ?_ q5 ?_ q7 ?_ q9 ?_ ?_ Q (fun st' k => hA st' (k.trans q1))
      · rw [hp]; simp
      · simpa using hW
      · simpa using hL
      · simpa using hM
      · simpa using hN
      · rw [q11]; simp
    generalize oB (kv x).2 = OD at *
    generalize (kv x).1 = K at *
    generalize (kv x).2 = D at *
    simp only [List.cons_append, List.nil_append] at x3 x4
    rcases h3 with h3 | h3
    · simp [h3, h5, h7, h9, h11, a1, a2, a3, hlt, x1, x2, x3, x4, hsr, hw, bl]
      refine hkey _ ?_ ?_ ?_ ?_ ?_ ?_ <;> simp [h3, h5, h7, h9]
    · simp [h3, h5, h7, h9, h11, a1, a2, a3, hlt, x1, x2, x3, x4, hsr, hw, bl]
      refine hkey _ ?_ ?_ ?_ ?_ ?_ ?_ <;> simp [h3, h5, h7, h9]
theorem eR_wP (l : List UInt8) : eR l = ((wP l).1.takeWhile eOk, (wP l).1.all eOk && (wP l).2) := by
  unfold eR wP
  split
  · unfold dR; exact elemsR_parts _ _ _
  · rfl
theorem law_FnDocAnyElements (o : Option (List UInt8)) (hl : (bl o).length ≤ reachBytes) (h : H) {s : Nat → Nat × Nat} (hS : Sens h.Γ s) :
    CW fns 6 [bAV 5 o] h fun q => q.1 = .bool true := by
  refine (runs6 (Nat.le_of_ble_eq_true rfl) ?_)
  by_cases g1 : 2147483647 < (bl o).length
  · have g1' : (2147483647 : Int) < (bl o).length := by omega
    simp [g1']
  have g1' : ¬ (2147483647 : Int) < (bl o).length := by omega
  have hM := c_docModest o
  by_cases g2 : (bl o).length ≤ 5000
  case neg =>
    have g2' : (decide ((bl o).length ≤ 5000)) = false := by simpa using g2
    rw [g2'] at hM
    simp [g1', hM]
  have g2' : (decide ((bl o).length ≤ 5000)) = true := by simpa using g2
  rw [g2'] at hM
  have hcp := c_docCopy o (by omega)
  have hol : (BS.own true (bl o)).opt = some (bl o) := rfl
  have hW := c_DocWell o g2
  have hE := c_lowElemsG (bl o) (by omega)
  have hV := c_lowValsG (bl o) (by omega)
  have hR := c_arrValsG (bl o) (by omega)
  have he := eR_wP (bl o)
  have hEl := eR_len (bl o)
  obtain ⟨W, w1, w2⟩ := wellX_cases (wP (bl o)).1
  have e2 : (eR (bl o)).2 = ((wP (bl o)).1.all eOk && (wP (bl o)).2) := by rw [he]
  have e1 : (wP (bl o)).1.takeWhile eOk = (eR (bl o)).1 := by rw [he]
  rw [← e2] at hW
  rw [e1] at w1
  have hA := c_docAwake h.mask hS
  generalize wellX (wP (bl o)).1 = X at *
  generalize (eR (bl o)).2 = ok at *
  clear he e1 e2
  generalize (eR (bl o)).1 = E at *
  have hL1 : (RS.mk (rowsC 5 E)).l = rowsC 5 E := RS.l_mk _
  have hL2 : (RS.mk (rawsC 5 E)).l = rawsC 5 E := RS.l_mk _
  have n1 : aLen false ((RS.mk (rowsC 5 E)).lv 22 1) = some (.int .i64 E.length) := RS.lv_len (by omega) (by rw [hL1]; simp)
  have n2 : aLen false ((RS.mk (rawsC 5 E)).lv 32 2) = some (.int .i64 E.length) := RS.lv_len (by omega) (by rw [hL2]; simp)
  have n3 : aLen false (W.lv 62 4) = some (.int .i64 E.length) := RS.lv_len (by omega) (by rw [w1]; simp)
  have n4 : aLen false (W.fv 62 4) = some (.int .i64 E.length) := RS.fv_len (by omega) (by rw [w1]; simp)
  generalize RS.mk (rowsC 5 E) = L at *
  generalize RS.mk (rawsC 5 E) = M at *
  rcases w2 with rfl | rfl
  · simp [g1', hM, hcp, hol, hW, hE, hV, hR, n1, n2, n3, n4, ex2_0, ex2_1]
    refine l_FnDocAnyElements (E := E) (by omega) E [] W L M M _ rfl ?_ w1 ?_ hL1 ?_ hL2 ?_ hL2 ?_ _ (fun st' k1 => ?_)
    · simp
    · simp
    · simp
    · simp
    · simp
    · simp at k1
      simp [k1, hA]
  · simp [g1', hM, hcp, hol, hW, hE, hV, hR, n1, n2, n3, n4, ex2_0, ex2_1]
    refine l_FnDocAnyElements (E := E) (by omega) E [] W L M M _ rfl ?_ w1 ?_ hL1 ?_ hL2 ?_ hL2 ?_ _ (fun st' k1 => ?_)
    · simp
    · simp
    · simp
    · simp
    · simp
    · simp at k1
      simp [k1, hA]
end Go.Proofs.YtcodfehgnjplcaaGreatDoor.Abs
