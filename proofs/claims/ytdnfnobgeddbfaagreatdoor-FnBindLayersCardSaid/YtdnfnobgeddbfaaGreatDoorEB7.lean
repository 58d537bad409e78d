/- The upper layer and the thin one, over a document of any bytes: values, the element with a number. -/
import Derived.Test.YtdnfnobgeddbfaaGreatDoorEB6R
namespace Go.Proofs.YtdnfnobgeddbfaaGreatDoor.Abs
set_option linter.all false
open Go.Proofs
set_option linter.unusedVariables false
set_option linter.unusedSimpArgs false
set_option maxRecDepth 100000
set_option maxHeartbeats 8000000

theorem c_fromCore (k : Int) (o : Option (List UInt8)) : ∀ hE : H, callω fns 44 [.agg [.int .u8 k, bAV 5 o]] hE = some (.agg [.int .u8 k, bAV 5 o], hE) := by
  intro hE
  refine run44 (Nat.le_of_ble_eq_true rfl) ?_
  simp
theorem c_some1 (k : Int) (h0 : 0 ≤ k) (h1 : k < 256) (o : Option (List UInt8)) (hl : (bl o).length < 2147483648) : ∀ hE : H, callω fns 35 [.agg [.int .u8 k, bAV 5 o]] hE = some (.agg [.int .i64 k, bAV 5 (oB (bl o))], hE) := by
  intro hE
  have w : IntKind.i64.wrap k = k := wrap_i64 (by omega) (by omega)
  have ho := c_own o hl
  refine run35 (Nat.le_of_ble_eq_true rfl) ?_
  simp [w, ho, oB]
theorem RS.fv_at2 {e : Nat} {b : RS} {k m : Nat} {pre r : List AV} (h : b.l = pre ++ r) (hp : pre.length = k * 2) (hm : b.l.length = m * 2) (hk : k < m) : ixV 2 (b.fv e 2) (.int .i64 (k : Int)) = some (.eptr r) := by
  rw [RS.fv_ix (by omega) hm hk, h, ← hp, List.drop_left]
theorem l_RawValues {v5 : AV} (h5k : ∀ t, v5.kill t = v5) : ∀ (rest pre : List (List UInt8)) (L acc : RS) (st : St), st.s 5 = v5 → st.s 17 = L.fv 86 2 → L.l = valsC 5 (pre ++ rest) → st.s 18 = .int .i64 (pre ++ rest).length → st.s 19 = .int .i64 pre.length → st.s 6 = acc.av 80 2 →
    (pre ++ rest).length < 2147483648 → acc.l.length ≤ pre.length * 2 → ∀ Q : Ex × St → Prop, (∀ st' : St, st'.h = st.h → st'.s 5 = v5 → st'.s 6 = (acc.app (valsC 5 rest)).av 80 2 → Q (.exit 0, st')) → LoopR fns lc26_0 st Q
  | [], pre, L, acc, st, h5, h1, hL, h2, h3, h4, hl, hc, Q, hA => by
    refine loopω_run fns ?_
    simp [h2, h3]
    refine hA _ ?_ ?_ ?_ <;> simp [h4, h5, RS.app_nil, valsC]
  | x :: rest, pre, L, acc, st, h5, h1, hL, h2, h3, h4, hl, hc, Q, hA => by
    refine loopω_run fns ?_
    have hd : (pre.length : Int) < pre.length + (rest.length + 1) := by omega
    have hw : IntKind.i64.wrap ((pre.length : Int) + 1) = pre.length + 1 := wrap_i64 (by omega) (by simp at hl; omega)
    have hx := RS.fv_at2 (e := 86) (b := L) (k := pre.length) (m := pre.length + (rest.length + 1)) (pre := valsC 5 pre) (r := valsC 5 (x :: rest)) (by rw [hL, valsC_append]) (by simp) (by rw [hL]; simp) (by omega)
    rw [valsC_cons] at hx
    have hf := c_fromCore (kv x).1 (some (kv x).2)
    have hv : valsC 5 (x :: rest) = [.int .u8 (kv x).1, bAV 5 (some (kv x).2)] ++ valsC 5 rest := rfl
    rw [hv] at hA
    generalize (kv x).1 = K at *
    generalize (kv x).2 = D at *
    have ha : ∀ hp : H, apV hp 80 2 32 false (acc.av 80 2) (.slice (.own true) 80 2 [.int .u8 K, bAV 5 (some D)]) = some ((acc.app [.int .u8 K, bAV 5 (some D)]).av 80 2) := fun hp =>
      RS.apV (by simp only [List.length_cons, List.length_nil, tooLong]; simp at hl; omega) (by simp only [List.length_cons, List.length_nil, tooLong]; simp at hl; omega)
    simp [h1, h2, h3, h4, hd, hx, ha, hw, hf]
    refine l_RawValues h5k rest (pre ++ [x]) L (acc.app [.int .u8 K, bAV 5 (some D)]) _ ?_ ?_ ?_ ?_ ?_ ?_ ?_ ?_ Q (fun st' k1 k0 k2 => hA st' ?_ ?_ ?_)
    · simp [h5, h5k]
    · simp [h1]
    · rw [hL]; simp
    · simp [h2]
    · simp
    · simp
    · simpa using hl
    · rw [RS.l_app]; simp; omega
    · rw [k1]
    · exact k0
    · rw [k2, RS.app_app]
theorem l_somes : ∀ (rest pre : List (List UInt8)) (L acc : RS) (st : St), st.s 6 = L.fv 80 2 → L.l = valsC 5 (pre ++ rest) → st.s 7 = .int .i64 (pre ++ rest).length → st.s 8 = .int .i64 pre.length → st.s 3 = acc.av 39 2 →
    (pre ++ rest).length < 2147483648 → (∀ e ∈ rest, e.length < 2147483648) → acc.l.length ≤ pre.length * 2 → ∀ Q : Ex × St → Prop, (∀ st' : St, st'.h = st.h → st'.s 3 = (acc.app (rawsC 5 rest)).av 39 2 → Q (.exit 0, st')) → LoopR fns lc27_0 st Q
  | [], pre, L, acc, st, h1, hL, h2, h3, h4, hl, hr, hc, Q, hA => by
    refine loopω_run fns ?_
    simp [h2, h3]
    refine hA _ ?_ ?_ <;> simp [h4, RS.app_nil, rawsC]
  | x :: rest, pre, L, acc, st, h1, hL, h2, h3, h4, hl, hr, hc, Q, hA => by
    refine loopω_run fns ?_
    have hd : (pre.length : Int) < pre.length + (rest.length + 1) := by omega
    have hw : IntKind.i64.wrap ((pre.length : Int) + 1) = pre.length + 1 := wrap_i64 (by omega) (by simp at hl; omega)
    have hx := RS.fv_at2 (e := 80) (b := L) (k := pre.length) (m := pre.length + (rest.length + 1)) (pre := valsC 5 pre) (r := valsC 5 (x :: rest)) (by rw [hL, valsC_append]) (by simp) (by rw [hL]; simp) (by omega)
    rw [valsC_cons] at hx
    have hkr := kv_range x
    have hf := c_some1 (kv x).1 hkr.1 hkr.2 (some (kv x).2) (by have := kv_len x; have := hr x List.mem_cons_self; simp only [bl]; omega)
    simp only [bl] at hf
    have hv : rawsC 5 (x :: rest) = [.int .i64 (kv x).1, bAV 5 (oB (kv x).2)] ++ rawsC 5 rest := rfl
    rw [hv] at hA
    generalize (kv x).1 = K at *
    generalize (kv x).2 = D at *
    generalize oB D = OD at *
    have ha : ∀ hp : H, apV hp 39 2 32 false (acc.av 39 2) (.slice (.own true) 39 2 [.int .i64 K, bAV 5 OD]) = some ((acc.app [.int .i64 K, bAV 5 OD]).av 39 2) := fun hp =>
      RS.apV (by simp only [List.length_cons, List.length_nil, tooLong]; simp at hl; omega) (by simp only [List.length_cons, List.length_nil, tooLong]; simp at hl; omega)
    simp [h1, h2, h3, h4, hd, hx, ha, hw, hf]
    refine l_somes rest (pre ++ [x]) L (acc.app [.int .i64 K, bAV 5 OD]) _ ?_ ?_ ?_ ?_ ?_ ?_ (fun e he => hr e (List.mem_cons_of_mem _ he)) ?_ Q (fun st' k1 k2 => hA st' ?_ ?_)
    · simp [h1]
    · rw [hL]; simp
    · simp [h2]
    · simp
    · simp
    · simpa using hl
    · rw [RS.l_app]; simp; omega
    · rw [k1]
    · rw [k2, RS.app_app]
theorem RS.mk_cases (l : List AV) : (l = [] ∧ RS.mk l = RS.nil) ∨ (l ≠ [] ∧ RS.mk l = RS.own true l) := by
  cases l with
  | nil => exact .inl ⟨rfl, rfl⟩
  | cons a r => exact .inr ⟨by simp, rfl⟩
def valsOf (l : List UInt8) : List (List UInt8) := if okL l then (dR l).1 else []
def valsGood (l : List UInt8) : Bool := okL l && (dR l).2
theorem c_RawVals (l : List UInt8) (hl : l.length < 2147483648) : ∃ v, (v = .nilI ∨ ∃ a b, v = xFew a b) ∧ (v = .nilI ↔ valsGood l = true) ∧ ∀ hE : H, callω fns 26 [bAV 5 (some l)] hE =
    some (.tup [(RS.own true (valsC 5 (valsOf l))).av 80 2, v], hE) := by
  have h := c_values l hl
  have hlen : (dR l).1.length ≤ l.length := by
    have := (elemsR_len (l.length + 1) (num32 l - 4) (l.drop 4)).2
    rw [List.length_drop] at this
    unfold dR; omega
  have hv : ∃ v, (v = .nilI ∨ ∃ a b, v = xFew a b) ∧ (v = .nilI ↔ valsGood l = true) ∧ ∀ hE : H, callω fns 45 [bAV 5 (some l)] hE = some (.tup [(RS.mk (valsC 5 (valsOf l))).av 86 2, v], hE) := by
    unfold valsOf valsGood
    cases hk : okL l with
    | false =>
      rw [hk] at h
      exact ⟨xFew (some l) (rest4 (some l)), .inr ⟨_, _, rfl⟩, ⟨fun e => (by cases e), fun e => (by cases e)⟩, fun hE => h hE⟩
    | true =>
      rw [hk] at h
      cases hg : (dR l).2 with
      | false =>
        rw [hg] at h
        exact ⟨xFew (dE (fun _ => none) l).1 (dE (fun _ => none) l).2, .inr ⟨_, _, rfl⟩, ⟨fun e => (by cases e), fun e => (by cases e)⟩, fun hE => h hE⟩
      | true =>
        rw [hg] at h
        exact ⟨.nilI, .inl rfl, ⟨fun _ => rfl, fun _ => rfl⟩, fun hE => h hE⟩
  have hvl : (valsOf l).length ≤ l.length := by unfold valsOf; split; { exact hlen }; { simp }
  generalize valsOf l = es at *
  obtain ⟨v, v1, v2, hc⟩ := hv
  refine ⟨v, v1, v2, fun hE => ?_⟩
  have hd : ∀ hE : H, callω fns 28 [bAV 5 (some l)] hE = some (.tup [(RS.mk (valsC 5 es)).av 86 2, v], hE) := by
    intro hE
    refine run28 (Nat.le_of_ble_eq_true rfl) ?_
    rcases v1 with rfl | ⟨a, b, rfl⟩ <;> (try simp only [xFew] at hc) <;> simp [hc, ex2_0, ex2_1, xFew]
  refine run26 (Nat.le_of_ble_eq_true rfl) ?_
  have hL : (RS.mk (valsC 5 es)).l = valsC 5 es := RS.l_mk _
  have hn : aLen false ((RS.mk (valsC 5 es)).lv 86 2) = some (.int .i64 es.length) := RS.lv_len (by omega) (by rw [hL]; simp)
  have hn2 : aLen false ((RS.mk (valsC 5 es)).fv 86 2) = some (.int .i64 es.length) := RS.fv_len (by omega) (by rw [hL]; simp)
  generalize RS.mk (valsC 5 es) = L at *
  have hmk : ∀ st : St, mkV false 80 2 32 [.int .u8 0, .slice .nil 0 1 []] (.int .i64 0) (.int .i64 es.length) st = some ((RS.own true []).av 80 2, st) := fun st => by
    simp only [mkV, mkN]
    rw [if_pos ⟨trivial, trivial, by omega, by omega, by simp only [tooLong]; omega, by simp only [tooLong]; omega⟩]
    simp [RS.av, repCells]
  have hvk : (∀ t, v.kill t = v) ∧ gvV v = v ∧ hdV v = v ∧ lfV v = v ∧ v.cls .left = v ∧ (∀ m, cpV m v = v) ∧ (∀ m, cpS m v = v) ∧ v.plain = true ∧ v.cells = [v] ∧ v.several = false ∧ ∀ st n, takeU v st n = (v, st.set n v) := by
    rcases v1 with rfl | ⟨a, b, rfl⟩
    · exact ⟨fun _ => rfl, rfl, rfl, rfl, rfl, fun m => by cases m <;> rfl, fun m => by cases m <;> rfl, rfl, rfl, rfl, fun _ _ => rfl⟩
    · exact ⟨fun _ => rfl, rfl, rfl, rfl, rfl, fun m => by cases m <;> rfl, fun m => by cases m <;> rfl, rfl, rfl, rfl, fun _ _ => rfl⟩
  obtain ⟨q1, q2, q3, q4, q5, q6, q7, q8, q9, q10, q11⟩ := hvk
  simp [hd, ex2_0, ex2_1, hn, hn2, hmk, q1, q2, q3, q4, q5, q6, q7, q8, q9, q10, q11]
  refine l_RawValues q1 es [] L (RS.own true []) _ ?_ ?_ ?_ ?_ ?_ ?_ ?_ ?_ _ (fun st' k1 k0 k2 => ?_)
  · simp
  · simp
  · simpa using hL
  · simp
  · simp
  · simp
  · simp; omega
  · simp [RS.l]
  · rw [RS.own_app, List.nil_append] at k2
    simp [k1, k2, k0, q1, q2, q3, q4, q5, q6, q7, q8, q9, q10, q11]
theorem valsOf_mem (l : List UInt8) (hl : l.length < 2147483648) : ∀ e ∈ valsOf l, e.length < 2147483648 ∧ e ≠ [] := by
  intro e he
  unfold valsOf at he
  split at he
  · have h1 := mem_flat_len he
    have h2 := (elemsR_len (l.length + 1) (num32 l - 4) (l.drop 4)).1
    rw [List.length_drop] at h2
    exact ⟨by unfold dR at h1; omega, elemsR_ne _ _ _ e he⟩
  · cases he
theorem c_impVals (l : List UInt8) (hl : l.length < 2147483648) : ∀ hE : H, callω fns 10 [bAV 5 (some l)] hE =
    some (.tup [(RS.mk (rawsC 5 (valsOf l))).av 39 2, .bool (valsGood l)], hE) := by
  intro hE
  obtain ⟨v, v1, v2, h⟩ := c_RawVals l hl
  have hmem := valsOf_mem l hl
  have hvl : (valsOf l).length ≤ l.length := by
    have := (elemsR_len (l.length + 1) (num32 l - 4) (l.drop 4)).2
    rw [List.length_drop] at this
    unfold valsOf dR; split; { omega }; { simp }
  generalize valsOf l = es at *
  have hL : (RS.own true (valsC 5 es)).l = valsC 5 es := rfl
  have hn : aLen false ((RS.own true (valsC 5 es)).lv 80 2) = some (.int .i64 es.length) := RS.lv_len (by omega) (by rw [hL]; simp)
  have hn2 : aLen false ((RS.own true (valsC 5 es)).fv 80 2) = some (.int .i64 es.length) := RS.fv_len (by omega) (by rw [hL]; simp)
  generalize RS.own true (valsC 5 es) = L at *
  have hs : ∀ hE : H, callω fns 27 [L.fv 80 2] hE = some ((RS.mk (rawsC 5 es)).av 39 2, hE) := by
    intro hE
    refine run27 (Nat.le_of_ble_eq_true rfl) ?_
    simp [hn, hn2]
    refine l_somes es [] L RS.nil _ ?_ ?_ ?_ ?_ ?_ ?_ (fun e he => (hmem e he).1) ?_ _ (fun st' k1 k2 => ?_)
    · simp
    · simpa using hL
    · simp
    · simp
    · simp [RS.av]
    · simp; omega
    · simp [RS.l]
    · rw [RS.nil_app] at k2
      simp [k1, k2]
  refine run10 (Nat.le_of_ble_eq_true rfl) ?_
  have hg : valsGood l = true ∨ valsGood l = false := by cases valsGood l <;> simp
  rcases v1 with rfl | ⟨a, b, rfl⟩
  · rw [v2.1 rfl]
    simp [h, hs, ex2_0, ex2_1]
  · have : valsGood l = false := by
      rcases hg with hg | hg
      · exact absurd (v2.2 hg) (by intro e; cases e)
      · exact hg
    rw [this]
    simp only [xFew] at h
    simp [h, hs, ex2_0, ex2_1]
end Go.Proofs.YtdnfnobgeddbfaaGreatDoor.Abs
