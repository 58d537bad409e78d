/- The lower layer through the thin one: elements and values of any bytes. -/
import Derived.Test.YtdnfnobgeddbfaaGreatDoorEB8R
import Derived.Test.YtdnfnobgeddbfaaGreatDoorTR10
namespace Go.Proofs.YtdnfnobgeddbfaaGreatDoor.Abs
set_option linter.all false
open Go.Proofs
set_option linter.unusedVariables false
set_option linter.unusedSimpArgs false
set_option maxRecDepth 100000
set_option maxHeartbeats 8000000

theorem c_raw (k : Int) (h0 : 0 ≤ k) (h1 : k < 256) (o : Option (List UInt8)) (hl : (bl o).length < 2147483648) : ∀ hE : H, callω fns 37 [.agg [.int .u8 k, bAV 5 o]] hE = some (.agg [.int .i64 k, bAV 5 (oB (bl o))], hE) := by
  intro hE
  have ho := c_own o hl
  have w : IntKind.i64.wrap k = k := wrap_i64 (by omega) (by omega)
  refine run37 (Nat.le_of_ble_eq_true rfl) ?_
  simp [ho, w, oB]
theorem c_Validate (l : List UInt8) (hl : l.length < 2147483648) : ∀ hE : H, callω fns 9 [bAV 5 (some l)] hE = some (.int .i64 (docC l), hE) := by
  intro hE
  have h1 := c_DocValidate l hl
  have h2 := c_code_doc l
  refine run9 (Nat.le_of_ble_eq_true rfl) ?_
  rcases docX_cases l with h | ⟨a, b, h⟩ | ⟨s, h⟩ <;> rw [h] at h1 h2 <;> (try simp only [xFew, xVE] at h1 h2) <;> simp [h1, h2]
theorem l_lowElements : ∀ (rest pre : List (List UInt8)) (L acc : RS) (st : St), st.s 14 = L.fv 56 1 → L.l = rowsC 5 (pre ++ rest) → st.s 15 = .int .i64 (pre ++ rest).length → st.s 16 = .int .i64 pre.length → st.s 6 = acc.av 22 1 →
    (pre ++ rest).length < 2147483648 → (∀ e ∈ rest, e.length < 2147483648 ∧ e ≠ []) → acc.l.length ≤ pre.length → ∀ Q : Ex × St → Prop, (∀ st' : St, st'.h = st.h → st'.s 5 = st.s 5 → st'.s 6 = (acc.app (rowsC 5 rest)).av 22 1 → Q (.exit 0, st')) → LoopR fns lc6_0 st Q
  | [], pre, L, acc, st, h1, hL, h2, h3, h4, hl, hr, hc, Q, hA => by
    refine loopω_run fns ?_
    simp [h2, h3]
    refine hA _ ?_ ?_ ?_ <;> simp [h4, RS.app_nil]
  | x :: rest, pre, L, acc, st, h1, hL, h2, h3, h4, hl, hr, hc, Q, hA => by
    refine loopω_run fns ?_
    have hd : (pre.length : Int) < pre.length + (rest.length + 1) := by omega
    have hw : IntKind.i64.wrap ((pre.length : Int) + 1) = pre.length + 1 := wrap_i64 (by omega) (by simp at hl; omega)
    have hx := RS.fv_at' (e := 56) (b := L) (k := pre.length) (pre := rowsC 5 pre) (r := rowsC 5 rest) (x := bAV 5 (some x)) (by rw [hL, rowsC_append]; rfl) (by simp)
    obtain ⟨hxl, hxn⟩ := hr x List.mem_cons_self
    have ho := c_own (some x) hxl
    simp only [bl] at ho
    have e1 : (BS.mk x).opt = some x := oB_some hxn
    have ha : ∀ hp : H, apV hp 22 1 24 false (acc.av 22 1) (.slice (.own true) 22 1 [bAV 5 (some x)]) = some ((acc.app [bAV 5 (some x)]).av 22 1) := fun hp =>
      RS.apV (by simp only [List.length_singleton, Nat.div_one, tooLong]; simp at hl; omega) (by simp only [List.length_singleton, tooLong]; simp at hl; omega)
    simp [h1, h2, h3, h4, hd, hx, ha, hw, ho, e1]
    refine l_lowElements rest (pre ++ [x]) L (acc.app [bAV 5 (some x)]) _ ?_ ?_ ?_ ?_ ?_ ?_ (fun e he => hr e (List.mem_cons_of_mem _ he)) ?_ Q (fun st' k1 k0 k2 => hA st' ?_ ?_ ?_)
    · simp [h1]
    · rw [hL]; simp
    · simp [h2]
    · simp
    · simp
    · simpa using hl
    · rw [RS.l_app]; simp; omega
    · rw [k1]
    · rw [k0]; simp
    · rw [k2, RS.app_app]; rfl

theorem l_raws : ∀ (rest pre : List (List UInt8)) (L acc : RS) (st : St), st.s 6 = L.fv 86 2 → L.l = valsC 5 (pre ++ rest) → st.s 7 = .int .i64 (pre ++ rest).length → st.s 8 = .int .i64 pre.length → st.s 3 = acc.av 39 2 →
    (pre ++ rest).length < 2147483648 → (∀ e ∈ rest, e.length < 2147483648) → acc.l.length ≤ pre.length * 2 → ∀ Q : Ex × St → Prop, (∀ st' : St, st'.h = st.h → st'.s 3 = (acc.app (rawsC 5 rest)).av 39 2 → Q (.exit 0, st')) → LoopR fns lc29_0 st Q
  | [], pre, L, acc, st, h1, hL, h2, h3, h4, hl, hr, hc, Q, hA => by
    refine loopω_run fns ?_
    simp [h2, h3]
    refine hA _ ?_ ?_ <;> simp [h4, RS.app_nil, rawsC]
  | x :: rest, pre, L, acc, st, h1, hL, h2, h3, h4, hl, hr, hc, Q, hA => by
    refine loopω_run fns ?_
    have hd : (pre.length : Int) < pre.length + (rest.length + 1) := by omega
    have hw : IntKind.i64.wrap ((pre.length : Int) + 1) = pre.length + 1 := wrap_i64 (by omega) (by simp at hl; omega)
    have hx := RS.fv_at2 (e := 86) (b := L) (k := pre.length) (m := pre.length + (rest.length + 1)) (pre := valsC 5 pre) (r := valsC 5 (x :: rest)) (by rw [hL, valsC_append]) (by simp) (by rw [hL]; simp) (by omega)
    rw [valsC_cons] at hx
    have hkr := kv_range x
    have hf := c_raw (kv x).1 hkr.1 hkr.2 (some (kv x).2) (by have := kv_len x; have := hr x List.mem_cons_self; simp only [bl]; omega)
    simp only [bl] at hf
    have hv : rawsC 5 (x :: rest) = [.int .i64 (kv x).1, bAV 5 (oB (kv x).2)] ++ rawsC 5 rest := rfl
    rw [hv] at hA
    generalize (kv x).1 = K at *
    generalize (kv x).2 = D at *
    generalize oB D = OD at *
    have ha : ∀ hp : H, apV hp 39 2 32 false (acc.av 39 2) (.slice (.own true) 39 2 [.int .i64 K, bAV 5 OD]) = some ((acc.app [.int .i64 K, bAV 5 OD]).av 39 2) := fun hp =>
      RS.apV (by simp only [List.length_cons, List.length_nil, tooLong]; simp at hl; omega) (by simp only [List.length_cons, List.length_nil, tooLong]; simp at hl; omega)
    simp [h1, h2, h3, h4, hd, hx, ha, hw, hf]
    refine l_raws rest (pre ++ [x]) L (acc.app [.int .i64 K, bAV 5 OD]) _ ?_ ?_ ?_ ?_ ?_ ?_ (fun e he => hr e (List.mem_cons_of_mem _ he)) ?_ Q (fun st' k1 k2 => hA st' ?_ ?_)
    · simp [h1]
    · rw [hL]; simp
    · simp [h2]
    · simp
    · simp
    · simpa using hl
    · rw [RS.l_app]; simp; omega
    · rw [k1]
    · rw [k2, RS.app_app]

theorem dR_len (l : List UInt8) : (dR l).1.length ≤ l.length := by
  have := (elemsR_len (l.length + 1) (num32 l - 4) (l.drop 4)).2
  rw [List.length_drop] at this
  unfold dR; omega
theorem dR_mem (l : List UInt8) (hl : l.length < 2147483648) : ∀ e ∈ (dR l).1, e.length < 2147483648 ∧ e ≠ [] := by
  intro e he
  have h1 := mem_flat_len he
  have h2 := (elemsR_len (l.length + 1) (num32 l - 4) (l.drop 4)).1
  rw [List.length_drop] at h2
  exact ⟨by unfold dR at h1; omega, elemsR_ne _ _ _ e he⟩
def eR (l : List UInt8) : List (List UInt8) × Bool := if okL l then dR l else ([], false)
theorem eR_len (l : List UInt8) : (eR l).1.length ≤ l.length := by
  unfold eR; split
  · exact dR_len l
  · simp
theorem eR_mem (l : List UInt8) (hl : l.length < 2147483648) : ∀ e ∈ (eR l).1, e.length < 2147483648 ∧ e ≠ [] := by
  unfold eR; split
  · exact dR_mem l hl
  · intro e he; simp at he
def eX (inv : List UInt8 → Option (List UInt8)) (l : List UInt8) : AV := if (eR l).2 then .nilI else if okL l then xFew (dE inv l).1 (dE inv l).2 else xFew (some l) (rest4 (some l))
theorem eX_cases (inv) (l : List UInt8) : ((eR l).2 = true ∧ eX inv l = .nilI) ∨ ((eR l).2 = false ∧ ∃ a b, eX inv l = xFew a b) := by
  unfold eX
  cases (eR l).2 with
  | true => exact .inl ⟨rfl, rfl⟩
  | false =>
    refine .inr ⟨rfl, ?_⟩
    simp only [Bool.false_eq_true, if_false]
    split <;> exact ⟨_, _, rfl⟩
theorem c_ElementsG (l : List UInt8) (hl : l.length < 2147483648) : ∀ hE : H, callω fns 22 [bAV 5 (some l)] hE = some (.tup [(RS.mk (rowsC 5 (eR l).1)).av 56 1, eX eDat l], hE) := by
  intro hE
  rw [c_Elements l hl hE]
  unfold eX eR
  by_cases hk : okL l = true
  · simp only [hk, if_true]
  · simp only [hk, if_false]; rfl
theorem c_valuesG (l : List UInt8) (hl : l.length < 2147483648) : ∀ hE : H, callω fns 45 [bAV 5 (some l)] hE = some (.tup [(RS.mk (valsC 5 (eR l).1)).av 86 2, eX (fun _ => none) l], hE) := by
  intro hE
  rw [c_values l hl hE]
  unfold eX eR
  by_cases hk : okL l = true
  · simp only [hk, if_true]
  · simp only [hk, if_false]; rfl
theorem c_lowElemsG (l : List UInt8) (hl : l.length < 2147483648) : ∀ hE : H, callω fns 6 [bAV 5 (some l)] hE =
    some (.tup [(RS.mk (rowsC 5 (eR l).1)).av 22 1, .bool (eR l).2], hE) := by
  intro hE
  have h := c_ElementsG l hl
  have hlen := eR_len l
  have hmem := eR_mem l hl
  have hx := eX_cases eDat l
  generalize eX eDat l = X at *
  generalize (eR l).2 = ok at *
  generalize (eR l).1 = es at *
  have hL : (RS.mk (rowsC 5 es)).l = rowsC 5 es := RS.l_mk _
  have hn : aLen false ((RS.mk (rowsC 5 es)).lv 56 1) = some (.int .i64 es.length) := RS.lv_len (by omega) (by rw [hL]; simp)
  have hn2 : aLen false ((RS.mk (rowsC 5 es)).fv 56 1) = some (.int .i64 es.length) := RS.fv_len (by omega) (by rw [hL]; simp)
  generalize hLL : RS.mk (rowsC 5 es) = L at *
  rcases hx with ⟨rfl, rfl⟩ | ⟨rfl, xa, xb, rfl⟩
  · refine run6 (Nat.le_of_ble_eq_true rfl) ?_
    simp [h, ex2_0, ex2_1, hn, hn2]
    refine l_lowElements es [] L RS.nil _ ?_ ?_ ?_ ?_ ?_ ?_ hmem ?_ _ (fun st' k1 k0 k2 => ?_)
    · simp
    · simpa using hL
    · simp
    · simp
    · simp [RS.av]
    · simp; omega
    · simp [RS.l]
    · rw [RS.nil_app] at k2
      simp at k0
      simp [k1, k2, k0, hLL]
  · refine run6 (Nat.le_of_ble_eq_true rfl) ?_
    simp [h, ex2_0, ex2_1, hn, hn2]
    refine l_lowElements es [] L RS.nil _ ?_ ?_ ?_ ?_ ?_ ?_ hmem ?_ _ (fun st' k1 k0 k2 => ?_)
    · simp
    · simpa using hL
    · simp
    · simp
    · simp [RS.av]
    · simp; omega
    · simp [RS.l]
    · rw [RS.nil_app] at k2
      simp at k0
      simp only [xFew] at k0
      simp [k1, k2, k0, hLL]
theorem c_raws (es : List (List UInt8)) (hlen : es.length < 2147483648) (hmem : ∀ e ∈ es, e.length < 2147483648) : ∀ hE : H, callω fns 29 [(RS.mk (valsC 5 es)).fv 86 2] hE = some ((RS.mk (rawsC 5 es)).av 39 2, hE) := by
  have hL : (RS.mk (valsC 5 es)).l = valsC 5 es := RS.l_mk _
  have hn : aLen false ((RS.mk (valsC 5 es)).lv 86 2) = some (.int .i64 es.length) := RS.lv_len (by omega) (by rw [hL]; simp)
  have hn2 : aLen false ((RS.mk (valsC 5 es)).fv 86 2) = some (.int .i64 es.length) := RS.fv_len (by omega) (by rw [hL]; simp)
  generalize RS.mk (valsC 5 es) = L at *
  intro hE
  refine run29 (Nat.le_of_ble_eq_true rfl) ?_
  simp [hn, hn2]
  refine l_raws es [] L RS.nil _ ?_ ?_ ?_ ?_ ?_ ?_ hmem ?_ _ (fun st' k1 k2 => ?_)
  · simp
  · simpa using hL
  · simp
  · simp
  · simp [RS.av]
  · simp; omega
  · simp [RS.l]
  · rw [RS.nil_app] at k2
    simp [k1, k2]
theorem c_lowValsG (l : List UInt8) (hl : l.length < 2147483648) : ∀ hE : H, callω fns 11 [bAV 5 (some l)] hE =
    some (.tup [(RS.mk (rawsC 5 (eR l).1)).av 39 2, .bool (eR l).2], hE) := by
  intro hE
  have h := c_valuesG l hl
  have hs := c_raws (eR l).1 (by have := eR_len l; omega) (fun e he => (eR_mem l hl e he).1)
  have hx := eX_cases (fun _ => none) l
  generalize eX (fun _ => none) l = X at *
  generalize (eR l).2 = ok at *
  generalize (eR l).1 = es at *
  generalize RS.mk (valsC 5 es) = L at *
  rcases hx with ⟨rfl, rfl⟩ | ⟨rfl, xa, xb, rfl⟩
  · have hD : ∀ hE : H, callω fns 28 [bAV 5 (some l)] hE = some (.tup [L.av 86 2, .nilI], hE) := by
      intro hE
      refine run28 (Nat.le_of_ble_eq_true rfl) ?_
      simp [h, ex2_0, ex2_1]
    refine run11 (Nat.le_of_ble_eq_true rfl) ?_
    simp [hD, hs, ex2_0, ex2_1]
  · have hD : ∀ hE : H, callω fns 28 [bAV 5 (some l)] hE = some (.tup [L.av 86 2, xFew xa xb], hE) := by
      intro hE
      refine run28 (Nat.le_of_ble_eq_true rfl) ?_
      simp [h, ex2_0, ex2_1]
    simp only [xFew] at hD
    refine run11 (Nat.le_of_ble_eq_true rfl) ?_
    simp [hD, hs, ex2_0, ex2_1]
theorem c_lowIndex (l : List UInt8) (hl : l.length < 2147483648) (i : Int) {s : Nat → Nat × Nat} {hE : H} (hS : Sens hE.Γ s) (he : (bl (atE l (IntKind.u64.wrap i).toNat)).length < 2147483648) :
    callω fns 14 [bAV 5 (some l), .int .i64 i] hE = some (.tup [(BS.mk (bl (atE l (IntKind.u64.wrap i).toNat))).av 5, .int .i64 (atC l (IntKind.u64.wrap i).toNat)], hE) := by
  have hw0 : 0 ≤ IntKind.u64.wrap i := by simp [IntKind.wrap, IntKind.signed, IntKind.bits]; omega
  have hw1 : IntKind.u64.wrap i < 18446744073709551616 := by simp [IntKind.wrap, IntKind.signed, IntKind.bits]; omega
  have hk : ((IntKind.u64.wrap i).toNat : Int) = IntKind.u64.wrap i := by omega
  have hk64 : (IntKind.u64.wrap i).toNat < 18446744073709551616 := by omega
  generalize hK : (IntKind.u64.wrap i).toNat = K at *
  have h1 : ∀ hE : H, Sens hE.Γ s → callω fns 46 [bAV 5 (some l), .int .u64 K] hE = some (.tup [bAV 5 (atE l K), atV s l K], hE) := fun hE hS => c_indexErr l hl K hk64 hS
  have ho := c_own (atE l K) he
  have hw : IntKind.u64.wrap i = (K : Int) := hk.symm
  have hcs := atV_cases s l K
  have hcode : ∀ hE : H, Sens hE.Γ s → callω fns 23 [atV s l K] hE = some (.int .i64 (atC l K), hE) := by
    intro hE hS
    unfold atC
    rcases hcs with ⟨h, h'⟩ | ⟨a, b, h, h'⟩ | ⟨h, h'⟩
    · rw [h, h']; exact c_code_nil hE
    · rw [h]
      have e1 : ¬ (atR l K).1 = 0 := by omega
      have e2 : ¬ (atR l K).1 = 2 := by omega
      rw [if_neg e1, if_neg e2]; exact c_code_few a b hE
    · rw [h, h']; exact c_code_sen (i := 0) (by omega) hS
  generalize atE l K = E at *
  generalize hV : atV s l K = V at *
  generalize atC l K = C at *
  have hvk : (∀ t, V.kill t = V) ∧ gvV V = V ∧ hdV V = V ∧ lfV V = V ∧ V.cls .left = V ∧ (∀ m, cpV m V = V) ∧ (∀ m, cpS m V = V) ∧ V.plain = true ∧ V.cells = [V] ∧ V.several = false ∧ ∀ st n, takeU V st n = (V, st.set n V) := by
    rcases hcs with ⟨h, _⟩ | ⟨a, b, h, _⟩ | ⟨h, _⟩ <;> rw [h] <;>
      exact ⟨fun _ => rfl, rfl, rfl, rfl, rfl, fun m => by cases m <;> rfl, fun m => by cases m <;> rfl, rfl, rfl, rfl, fun _ _ => rfl⟩
  obtain ⟨q1, q2, q3, q4, q5, q6, q7, q8, q9, q10, q11⟩ := hvk
  have h2 : ∀ hE : H, Sens hE.Γ s → callω fns 31 [bAV 5 (some l), .int .u64 K] hE = some (.tup [bAV 5 E, V], hE) := by
    intro hE hS
    have h1' := h1 hE.mask hS
    refine run31 (Nat.le_of_ble_eq_true rfl) ?_
    simp [h1', ex2_0, ex2_1, q1, q2, q3, q4, q5, q6, q7, q8, q9, q10, q11]
  have h3' := h2 hE.mask hS
  have h4 := hcode hE.mask hS
  refine run14 (Nat.le_of_ble_eq_true rfl) ?_
  simp [hw, h3', h4, ho, ex2_0, ex2_1, q1, q2, q3, q4, q5, q6, q7, q8, q9, q10, q11]
end Go.Proofs.YtdnfnobgeddbfaaGreatDoor.Abs
