/- EB7, EB8 -/
import Derived.Test.YtdnfnobgeddbfaaDoorEB6
/- The upper layer and the thin one, over a document of any bytes: values, the element with a number. -/
namespace Go.Proofs.YtdnfnobgeddbfaaDoor.Abs
set_option linter.all false
open Go.Proofs
set_option linter.unusedVariables false
set_option linter.unusedSimpArgs false
set_option maxRecDepth 100000
set_option maxHeartbeats 8000000

theorem c_fromCore (k : Int) (o : Option (List UInt8)) : ∀ hE : H, callω fns 56 [.agg [.int .u8 k, bAV 5 o]] hE = some (.agg [.int .u8 k, bAV 5 o], hE) := by
  intro hE
  refine run56 (Nat.le_of_ble_eq_true rfl) ?_
  simp
theorem c_some1 (k : Int) (h0 : 0 ≤ k) (h1 : k < 256) (o : Option (List UInt8)) (hl : (bl o).length < 2147483648) : ∀ hE : H, callω fns 37 [.agg [.int .u8 k, bAV 5 o]] hE = some (.agg [.int .i64 k, bAV 5 (oB (bl o))], hE) := by
  intro hE
  have w : IntKind.i64.wrap k = k := wrap_i64 (by omega) (by omega)
  have ho := c_own o hl
  refine run37 (Nat.le_of_ble_eq_true rfl) ?_
  simp [w, ho, oB]
theorem RS.fv_at2 {e : Nat} {b : RS} {k m : Nat} {pre r : List AV} (h : b.l = pre ++ r) (hp : pre.length = k * 2) (hm : b.l.length = m * 2) (hk : k < m) : ixV 2 (b.fv e 2) (.int .i64 (k : Int)) = some (.eptr r) := by
  rw [RS.fv_ix (by omega) hm hk, h, ← hp, List.drop_left]
theorem l_RawValues {v5 : AV} (h5k : ∀ t, v5.kill t = v5) : ∀ (rest pre : List (List UInt8)) (L acc : RS) (st : St), st.s 5 = v5 → st.s 17 = L.fv 108 2 → L.l = valsC 5 (pre ++ rest) → st.s 18 = .int .i64 (pre ++ rest).length → st.s 19 = .int .i64 pre.length → st.s 6 = acc.av 71 2 →
    (pre ++ rest).length < 2147483648 → acc.l.length ≤ pre.length * 2 → ∀ Q : Ex × St → Prop, (∀ st' : St, st'.h = st.h → st'.s 5 = v5 → st'.s 6 = (acc.app (valsC 5 rest)).av 71 2 → Q (.exit 0, st')) → LoopR fns lc41_0 st Q
  | [], pre, L, acc, st, h5, h1, hL, h2, h3, h4, hl, hc, Q, hA => by
    refine loopω_run fns ?_
    simp [h2, h3]
    refine hA _ ?_ ?_ ?_ <;> simp [h4, h5, RS.app_nil, valsC]
  | x :: rest, pre, L, acc, st, h5, h1, hL, h2, h3, h4, hl, hc, Q, hA => by
    refine loopω_run fns ?_
    have hd : (pre.length : Int) < pre.length + (rest.length + 1) := by omega
    have hw : IntKind.i64.wrap ((pre.length : Int) + 1) = pre.length + 1 := wrap_i64 (by omega) (by simp at hl; omega)
    have hx := RS.fv_at2 (e := 108) (b := L) (k := pre.length) (m := pre.length + (rest.length + 1)) (pre := valsC 5 pre) (r := valsC 5 (x :: rest)) (by rw [hL, valsC_append]) (by simp) (by rw [hL]; simp) (by omega)
    rw [valsC_cons] at hx
    have hf := c_fromCore (kv x).1 (some (kv x).2)
    have hv : valsC 5 (x :: rest) = [.int .u8 (kv x).1, bAV 5 (some (kv x).2)] ++ valsC 5 rest := rfl
    rw [hv] at hA
    generalize (kv x).1 = K at *
    generalize (kv x).2 = D at *
    have ha : ∀ hp : H, apV hp 71 2 32 false (acc.av 71 2) (.slice (.own true) 71 2 [.int .u8 K, bAV 5 (some D)]) = some ((acc.app [.int .u8 K, bAV 5 (some D)]).av 71 2) := fun hp =>
      RS.apV (by simp only [List.length_cons, List.length_nil, tooLong]; simp at hl; omega) (by simp only [List.length_cons, List.length_nil, tooLong]; simp at hl; omega)
    simp [h1, h2, h3, h4, hd, hx, ha, hw, hf]
    refine l_RawValues h5k rest (pre ++ [x]) L (acc.app [.int .u8 K, bAV 5 (some D)]) _ ?_ ?_ ?_ ?_ ?_ ?_ ?_ ?_ Q (fun st' k1 k0 k2 => hA st' ?_ ?_ ?_)
    · simp [h5, h5k]
    · simp [h1]
    · rw [hL]; simp
    · simp [h2]
    · simp
    · simp
    · simpa using hl
    · rw [RS.l_app]; simp; omega
    · rw [k1]
    · exact k0
    · rw [k2, RS.app_app]
theorem l_somes : ∀ (rest pre : List (List UInt8)) (L acc : RS) (st : St), st.s 6 = L.fv 71 2 → L.l = valsC 5 (pre ++ rest) → st.s 7 = .int .i64 (pre ++ rest).length → st.s 8 = .int .i64 pre.length → st.s 3 = acc.av 29 2 →
    (pre ++ rest).length < 2147483648 → (∀ e ∈ rest, e.length < 2147483648) → acc.l.length ≤ pre.length * 2 → ∀ Q : Ex × St → Prop, (∀ st' : St, st'.h = st.h → st'.s 3 = (acc.app (rawsC 5 rest)).av 29 2 → Q (.exit 0, st')) → LoopR fns lc42_0 st Q
  | [], pre, L, acc, st, h1, hL, h2, h3, h4, hl, hr, hc, Q, hA => by
    refine loopω_run fns ?_
    simp [h2, h3]
    refine hA _ ?_ ?_ <;> simp [h4, RS.app_nil, rawsC]
  | x :: rest, pre, L, acc, st, h1, hL, h2, h3, h4, hl, hr, hc, Q, hA => by
    refine loopω_run fns ?_
    have hd : (pre.length : Int) < pre.length + (rest.length + 1) := by omega
    have hw : IntKind.i64.wrap ((pre.length : Int) + 1) = pre.length + 1 := wrap_i64 (by omega) (by simp at hl; omega)
    have hx := RS.fv_at2 (e := 71) (b := L) (k := pre.length) (m := pre.length + (rest.length + 1)) (pre := valsC 5 pre) (r := valsC 5 (x :: rest)) (by rw [hL, valsC_append]) (by simp) (by rw [hL]; simp) (by omega)
    rw [valsC_cons] at hx
    have hkr := kv_range x
    have hf := c_some1 (kv x).1 hkr.1 hkr.2 (some (kv x).2) (by have := kv_len x; have := hr x List.mem_cons_self; simp only [bl]; omega)
    simp only [bl] at hf
    have hv : rawsC 5 (x :: rest) = [.int .i64 (kv x).1, bAV 5 (oB (kv x).2)] ++ rawsC 5 rest := rfl
    rw [hv] at hA
    generalize (kv x).1 = K at *
    generalize (kv x).2 = D at *
    generalize oB D = OD at *
    have ha : ∀ hp : H, apV hp 29 2 32 false (acc.av 29 2) (.slice (.own true) 29 2 [.int .i64 K, bAV 5 OD]) = some ((acc.app [.int .i64 K, bAV 5 OD]).av 29 2) := fun hp =>
      RS.apV (by simp only [List.length_cons, List.length_nil, tooLong]; simp at hl; omega) (by simp only [List.length_cons, List.length_nil, tooLong]; simp at hl; omega)
    simp [h1, h2, h3, h4, hd, hx, ha, hw, hf]
    refine l_somes rest (pre ++ [x]) L (acc.app [.int .i64 K, bAV 5 OD]) _ ?_ ?_ ?_ ?_ ?_ ?_ (fun e he => hr e (List.mem_cons_of_mem _ he)) ?_ Q (fun st' k1 k2 => hA st' ?_ ?_)
    · simp [h1]
    · rw [hL]; simp
    · simp [h2]
    · simp
    · simp
    · simpa using hl
    · rw [RS.l_app]; simp; omega
    · rw [k1]
    · rw [k2, RS.app_app]
theorem RS.mk_cases (l : List AV) : (l = [] ∧ RS.mk l = RS.nil) ∨ (l ≠ [] ∧ RS.mk l = RS.own true l) := by
  cases l with
  | nil => exact .inl ⟨rfl, rfl⟩
  | cons a r => exact .inr ⟨by simp, rfl⟩
/-- What is told of a document's values, whatever its bytes. -/
def valsOf (l : List UInt8) : List (List UInt8) := if okL l then (dR l).1 else []
def valsGood (l : List UInt8) : Bool := okL l && (dR l).2
theorem c_RawVals (l : List UInt8) (hl : l.length < 2147483648) : ∃ v, (v = .nilI ∨ ∃ a b, v = xFew a b) ∧ (v = .nilI ↔ valsGood l = true) ∧ ∀ hE : H, callω fns 41 [bAV 5 (some l)] hE =
    some (.tup [(RS.own true (valsC 5 (valsOf l))).av 71 2, v], hE) := by
  have h := c_values l hl
  have hlen : (dR l).1.length ≤ l.length := by
    have := (elemsR_len (l.length + 1) (num32 l - 4) (l.drop 4)).2
    rw [List.length_drop] at this
    unfold dR; omega
  have hv : ∃ v, (v = .nilI ∨ ∃ a b, v = xFew a b) ∧ (v = .nilI ↔ valsGood l = true) ∧ ∀ hE : H, callω fns 78 [bAV 5 (some l)] hE = some (.tup [(RS.mk (valsC 5 (valsOf l))).av 108 2, v], hE) := by
    unfold valsOf valsGood
    cases hk : okL l with
    | false =>
      rw [hk] at h
      exact ⟨xFew (some l) (rest4 (some l)), .inr ⟨_, _, rfl⟩, ⟨fun e => (by cases e), fun e => (by cases e)⟩, fun hE => h hE⟩
    | true =>
      rw [hk] at h
      cases hg : (dR l).2 with
      | false =>
        rw [hg] at h
        exact ⟨xFew (dE (fun _ => none) l).1 (dE (fun _ => none) l).2, .inr ⟨_, _, rfl⟩, ⟨fun e => (by cases e), fun e => (by cases e)⟩, fun hE => h hE⟩
      | true =>
        rw [hg] at h
        exact ⟨.nilI, .inl rfl, ⟨fun _ => rfl, fun _ => rfl⟩, fun hE => h hE⟩
  have hvl : (valsOf l).length ≤ l.length := by unfold valsOf; split; { exact hlen }; { simp }
  generalize valsOf l = es at *
  obtain ⟨v, v1, v2, hc⟩ := hv
  refine ⟨v, v1, v2, fun hE => ?_⟩
  have hd : ∀ hE : H, callω fns 58 [bAV 5 (some l)] hE = some (.tup [(RS.mk (valsC 5 es)).av 108 2, v], hE) := by
    intro hE
    refine run58 (Nat.le_of_ble_eq_true rfl) ?_
    rcases v1 with rfl | ⟨a, b, rfl⟩ <;> (try simp only [xFew] at hc) <;> simp [hc, ex2_0, ex2_1, xFew]
  refine run41 (Nat.le_of_ble_eq_true rfl) ?_
  have hL : (RS.mk (valsC 5 es)).l = valsC 5 es := RS.l_mk _
  have hn : aLen false ((RS.mk (valsC 5 es)).lv 108 2) = some (.int .i64 es.length) := RS.lv_len (by omega) (by rw [hL]; simp)
  have hn2 : aLen false ((RS.mk (valsC 5 es)).fv 108 2) = some (.int .i64 es.length) := RS.fv_len (by omega) (by rw [hL]; simp)
  generalize RS.mk (valsC 5 es) = L at *
  have hmk : ∀ st : St, mkV false 71 2 32 [.int .u8 0, .slice .nil 0 1 []] (.int .i64 0) (.int .i64 es.length) st = some ((RS.own true []).av 71 2, st) := fun st => by
    simp only [mkV, mkN]
    rw [if_pos ⟨trivial, trivial, by omega, by omega, by simp only [tooLong]; omega, by simp only [tooLong]; omega⟩]
    simp [RS.av, repCells]
  have hvk : (∀ t, v.kill t = v) ∧ gvV v = v ∧ hdV v = v ∧ lfV v = v ∧ v.cls .left = v ∧ (∀ m, cpV m v = v) ∧ (∀ m, cpS m v = v) ∧ v.plain = true ∧ v.cells = [v] ∧ v.several = false ∧ ∀ st n, takeU v st n = (v, st.set n v) := by
    rcases v1 with rfl | ⟨a, b, rfl⟩
    · exact ⟨fun _ => rfl, rfl, rfl, rfl, rfl, fun m => by cases m <;> rfl, fun m => by cases m <;> rfl, rfl, rfl, rfl, fun _ _ => rfl⟩
    · exact ⟨fun _ => rfl, rfl, rfl, rfl, rfl, fun m => by cases m <;> rfl, fun m => by cases m <;> rfl, rfl, rfl, rfl, fun _ _ => rfl⟩
  obtain ⟨q1, q2, q3, q4, q5, q6, q7, q8, q9, q10, q11⟩ := hvk
  simp [hd, ex2_0, ex2_1, hn, hn2, hmk, q1, q2, q3, q4, q5, q6, q7, q8, q9, q10, q11]
  refine l_RawValues q1 es [] L (RS.own true []) _ ?_ ?_ ?_ ?_ ?_ ?_ ?_ ?_ _ (fun st' k1 k0 k2 => ?_)
  · simp
  · simp
  · simpa using hL
  · simp
  · simp
  · simp
  · simp; omega
  · simp [RS.l]
  · rw [RS.own_app, List.nil_append] at k2
    simp [k1, k2, k0, q1, q2, q3, q4, q5, q6, q7, q8, q9, q10, q11]
theorem valsOf_mem (l : List UInt8) (hl : l.length < 2147483648) : ∀ e ∈ valsOf l, e.length < 2147483648 ∧ e ≠ [] := by
  intro e he
  unfold valsOf at he
  split at he
  · have h1 := mem_flat_len he
    have h2 := (elemsR_len (l.length + 1) (num32 l - 4) (l.drop 4)).1
    rw [List.length_drop] at h2
    exact ⟨by unfold dR at h1; omega, elemsR_ne _ _ _ e he⟩
  · cases he
theorem c_impVals (l : List UInt8) (hl : l.length < 2147483648) : ∀ hE : H, callω fns 18 [bAV 5 (some l)] hE =
    some (.tup [(RS.mk (rawsC 5 (valsOf l))).av 29 2, .bool (valsGood l)], hE) := by
  intro hE
  obtain ⟨v, v1, v2, h⟩ := c_RawVals l hl
  have hmem := valsOf_mem l hl
  have hvl : (valsOf l).length ≤ l.length := by
    have := (elemsR_len (l.length + 1) (num32 l - 4) (l.drop 4)).2
    rw [List.length_drop] at this
    unfold valsOf dR; split; { omega }; { simp }
  generalize valsOf l = es at *
  have hL : (RS.own true (valsC 5 es)).l = valsC 5 es := rfl
  have hn : aLen false ((RS.own true (valsC 5 es)).lv 71 2) = some (.int .i64 es.length) := RS.lv_len (by omega) (by rw [hL]; simp)
  have hn2 : aLen false ((RS.own true (valsC 5 es)).fv 71 2) = some (.int .i64 es.length) := RS.fv_len (by omega) (by rw [hL]; simp)
  generalize RS.own true (valsC 5 es) = L at *
  have hs : ∀ hE : H, callω fns 42 [L.fv 71 2] hE = some ((RS.mk (rawsC 5 es)).av 29 2, hE) := by
    intro hE
    refine run42 (Nat.le_of_ble_eq_true rfl) ?_
    simp [hn, hn2]
    refine l_somes es [] L RS.nil _ ?_ ?_ ?_ ?_ ?_ ?_ (fun e he => (hmem e he).1) ?_ _ (fun st' k1 k2 => ?_)
    · simp
    · simpa using hL
    · simp
    · simp
    · simp [RS.av]
    · simp; omega
    · simp [RS.l]
    · rw [RS.nil_app] at k2
      simp [k1, k2]
  refine run18 (Nat.le_of_ble_eq_true rfl) ?_
  have hg : valsGood l = true ∨ valsGood l = false := by cases valsGood l <;> simp
  rcases v1 with rfl | ⟨a, b, rfl⟩
  · rw [v2.1 rfl]
    simp [h, hs, ex2_0, ex2_1]
  · have : valsGood l = false := by
      rcases hg with hg | hg
      · exact absurd (v2.2 hg) (by intro e; cases e)
      · exact hg
    rw [this]
    simp only [xFew] at h
    simp [h, hs, ex2_0, ex2_1]
end Go.Proofs.YtdnfnobgeddbfaaDoor.Abs

/- The element with a number, of a document of any bytes. -/
namespace Go.Proofs.YtdnfnobgeddbfaaDoor.Abs
set_option linter.all false
open Go.Proofs
set_option linter.unusedVariables false
set_option linter.unusedSimpArgs false
set_option maxRecDepth 100000
set_option maxHeartbeats 8000000

theorem l_indexErr {o : Option (List UInt8)} {k : Nat} (hk64 : k < 18446744073709551616) : ∀ (f : Nat) (n : Int) (l : List UInt8) (c j : Nat) (st : St), st.s 0 = bAV 5 o → st.s 1 = .int .u64 k → st.s 6 = .int .i32 n → st.s 7 = bAV 5 (some l) → st.s 9 = .int .u64 c → c + j = k →
    l.length < f → l.length < 2147483648 → -2147483648 ≤ n → n < 2147483648 → ∀ Q : Ex × St → Prop,
    ((elemAt f n l j).1 = 2 → ∀ st' : St, st'.h = st.h → Q (.exit 0, st')) →
    ((elemAt f n l j).1 = 1 → ∀ st' : St, st'.h = st.h → st'.s 4 = bAV 5 none → st'.s 5 = xFew o (some (elemAt f n l j).2) → Q (.ret, st')) →
    ((elemAt f n l j).1 = 0 → ∀ st' : St, st'.h = st.h → st'.s 4 = bAV 5 (some (elemAt f n l j).2) → st'.s 5 = .nilI → Q (.ret, st')) → LoopR fns lc80_0 st Q
  | 0, n, l, c, j, st, h0, h1, h4, h5, h9, hc, hf, hl, hn0, hn1, Q, hA, hB, hC => by omega
  | f + 1, n, l, c, j, st, h0, h1, h4, h5, h9, hc, hf, hl, hn0, hn1, Q, hA, hB, hC => by
    refine loopω_run fns ?_
    have e0 : AV.slice .nil 0 1 [] = bAV 5 none := rfl
    by_cases hn : n ≤ 1
    · have g : ¬ (1 < n) := by omega
      simp only [elemAt, hn, if_true] at hA
      simp [h4, g]
      refine hA (by simp) _ ?_ <;> simp
    · have g : 1 < n := by omega
      have hr := c_ReadElement l hl
      cases he : eGet l with
      | none =>
        have e : eRes l = .tup [bAV 5 none, bAV 5 (some l), .bool false] := by simp [eRes, he]
        rw [e] at hr
        have hi := c_NewIBE o (some l)
        simp only [elemAt, hn, if_false, he] at hB
        have w0 : IntKind.i32.wrap 0 = 0 := rfl
        have w1 : IntKind.i32.wrap n = n := i32_small hn0 hn1
        simp [xFew, h0, h1, h4, h5, h9, g, hr, hi, mk_few, ex3_0, ex3_1, ex3_2, bl, w0, w1]
        refine hB (by simp) _ ?_ ?_ ?_ <;> simp [xFew, e0]
      | some m =>
        have hm := eGet_le he
        have e : eRes l = .tup [bAV 5 (some (l.take m)), bAV 5 (some (l.drop m)), .bool true] := by simp [eRes, he]
        rw [e] at hr
        have hX : (l.take m).length = m := by simp; omega
        have hY : (l.drop m).length = l.length - m := by simp
        have w0 : IntKind.i32.wrap (m : Int) = m := i32_small (by omega) (by omega)
        have w1 : IntKind.i32.wrap (n - m) = n - m := i32_small (by omega) (by omega)
        simp only [elemAt, hn, if_false, he] at hA hB hC
        generalize l.take m = X at *
        cases j with
        | zero =>
          have hck : (c : Int) = k := by omega
          simp only at hC
          simp [h0, h1, h4, h5, h9, g, hr, ex3_0, ex3_1, ex3_2, bl, hX, w0, w1, hck]
          refine hC (by simp) _ ?_ ?_ ?_ <;> simp
        | succ j =>
          have hck : ¬ (c : Int) = k := by omega
          have hck2 : ¬ c = k := by omega
          have w2 : IntKind.u64.wrap ((c : Int) + 1) = (c + 1 : Nat) := by simp [IntKind.wrap, IntKind.signed, IntKind.bits]; omega
          simp only at hA hB hC
          simp [h0, h1, h4, h5, h9, g, hr, ex3_0, ex3_1, ex3_2, bl, hX, w0, w1, hck, hck2, w2]
          refine l_indexErr hk64 (o := o) f (n - m) (l.drop m) (c + 1) j _ ?_ ?_ ?_ ?_ ?_ (by omega) (by omega) (by omega) (by omega) (by omega) Q (fun hb st' k1 => hA hb st' ?_) (fun hb st' k1 k2 k3 => hB hb st' ?_ k2 k3) (fun hb st' k1 k2 k3 => hC hb st' ?_ k2 k3)
          · simp [h0]
          · simp [h1]
          · simp
          · simp
          · simp
          · rw [k1]
          · rw [k1]
          · rw [k1]
/-- The element with a number: what the lower layer says. -/
def atR (l : List UInt8) (k : Nat) : Nat × List UInt8 := if okL l then elemAt (l.length + 1) (num32 l - 4) (l.drop 4) k else (3, [])
def atV (s : Nat → Nat × Nat) (l : List UInt8) (k : Nat) : AV :=
  if (atR l k).1 = 0 then .nilI else if (atR l k).1 = 1 then xFew (some l) (some (atR l k).2) else if (atR l k).1 = 2 then sE (s 0) else xFew (some l) (rest4 (some l))
def atE (l : List UInt8) (k : Nat) : Option (List UInt8) := if (atR l k).1 = 0 then some (atR l k).2 else none
theorem elemAt_lt : ∀ (f : Nat) (n : Int) (l : List UInt8) (k : Nat), (elemAt f n l k).1 < 3
  | 0, n, l, k => by simp [elemAt]
  | f + 1, n, l, k => by
    simp only [elemAt]
    split
    · simp
    · split
      · simp
      · split
        · simp
        · exact elemAt_lt f _ _ _
theorem c_indexErr (l : List UInt8) (hl : l.length < 2147483648) (k : Nat) (hk64 : k < 18446744073709551616) {s : Nat → Nat × Nat} {hE : H} (hS : Sens hE.Γ s) : callω fns 80 [bAV 5 (some l), .int .u64 k] hE =
    some (.tup [bAV 5 (atE l k), atV s l k], hE) := by
  have e0 : AV.slice .nil 0 1 [] = bAV 5 none := rfl
  have hR := c_RLen (some l)
  simp only [bl] at hR
  unfold atE atV atR
  by_cases hk : okL l = true
  case neg =>
    simp only [Bool.not_eq_true] at hk
    have hi := c_NewIBE (some l) (rest4 (some l))
    rw [hk] at hR
    generalize rest4 (some l) = R at *
    refine run80 (Nat.le_of_ble_eq_true rfl) ?_
    simp [hR, hk, hi, xFew, mkI, ex3_0, ex3_1, ex3_2, e0]
  case pos =>
    obtain ⟨h4, h0⟩ := okL_le hk
    rw [hk, rest4_some h4] at hR
    have hr := num32_range l
    have w : IntKind.i32.wrap (num32 l - 4) = num32 l - 4 := i32_small (by omega) (by omega)
    have hd : (l.drop 4).length = l.length - 4 := by simp
    simp only [hk, if_true]
    have hlt := elemAt_lt (l.length + 1) (num32 l - 4) (l.drop 4) k
    generalize hN : num32 l = N at *
    generalize hL : l.drop 4 = L at *
    refine run80 (Nat.le_of_ble_eq_true rfl) ?_
    simp [hR, w, ex3_0, ex3_1, ex3_2]
    refine l_indexErr (o := some l) hk64 (l.length + 1) (N - 4) L 0 k _ ?_ ?_ ?_ ?_ ?_ (by omega) (by omega) (by omega) (by omega) (by omega) _ (fun hb st' k1 => ?_) (fun hb st' k1 k2 k3 => ?_) (fun hb st' k1 k2 k3 => ?_)
    · simp
    · simp
    · simp
    · simp
    · simp
    · have hg := hS.g0
      simp [k1, hb, hg, glV, sE, e0]
    · simp only [xFew] at k3
      simp [k1, k2, k3, hb, xFew]
    · simp [k1, k2, k3, hb]
theorem atV_cases (s : Nat → Nat × Nat) (l : List UInt8) (k : Nat) : (atV s l k = .nilI ∧ (atR l k).1 = 0) ∨ (∃ a b, atV s l k = xFew a b ∧ ((atR l k).1 = 1 ∨ (atR l k).1 = 3)) ∨ (atV s l k = sE (s 0) ∧ (atR l k).1 = 2) := by
  have hlt : (atR l k).1 = 0 ∨ (atR l k).1 = 1 ∨ (atR l k).1 = 2 ∨ (atR l k).1 = 3 := by
    unfold atR
    split
    · have := elemAt_lt (l.length + 1) (num32 l - 4) (l.drop 4) k; omega
    · simp
  unfold atV
  rcases hlt with h | h | h | h <;> rw [h]
  · exact .inl ⟨rfl, rfl⟩
  · exact .inr (.inl ⟨_, _, rfl, .inl rfl⟩)
  · exact .inr (.inr ⟨rfl, rfl⟩)
  · exact .inr (.inl ⟨_, _, rfl, .inr rfl⟩)
def atC (l : List UInt8) (k : Nat) : Int := if (atR l k).1 = 0 then 0 else if (atR l k).1 = 2 then 7 else 1
theorem c_impIndex (l : List UInt8) (hl : l.length < 2147483648) (i : Int) {s : Nat → Nat × Nat} {hE : H} (hS : Sens hE.Γ s) (he : (bl (atE l (IntKind.u64.wrap i).toNat)).length < 2147483648) :
    callω fns 21 [bAV 5 (some l), .int .i64 i] hE = some (.tup [(BS.mk (bl (atE l (IntKind.u64.wrap i).toNat))).av 5, .int .i64 (atC l (IntKind.u64.wrap i).toNat)], hE) := by
  have hw0 : 0 ≤ IntKind.u64.wrap i := by simp [IntKind.wrap, IntKind.signed, IntKind.bits]; omega
  have hw1 : IntKind.u64.wrap i < 18446744073709551616 := by simp [IntKind.wrap, IntKind.signed, IntKind.bits]; omega
  have hk : ((IntKind.u64.wrap i).toNat : Int) = IntKind.u64.wrap i := by omega
  have hk64 : (IntKind.u64.wrap i).toNat < 18446744073709551616 := by omega
  generalize hK : (IntKind.u64.wrap i).toNat = K at *
  have h1 : ∀ hE : H, Sens hE.Γ s → callω fns 80 [bAV 5 (some l), .int .u64 K] hE = some (.tup [bAV 5 (atE l K), atV s l K], hE) := fun hE hS => c_indexErr l hl K hk64 hS
  have ho := c_own (atE l K) he
  have hw : IntKind.u64.wrap i = (K : Int) := hk.symm
  have hcs := atV_cases s l K
  have hcode : ∀ hE : H, Sens hE.Γ s → callω fns 31 [atV s l K] hE = some (.int .i64 (atC l K), hE) := by
    intro hE hS
    unfold atC
    rcases hcs with ⟨h, h'⟩ | ⟨a, b, h, h'⟩ | ⟨h, h'⟩
    · rw [h, h']; exact c_code_nil hE
    · rw [h]
      have e1 : ¬ (atR l K).1 = 0 := by omega
      have e2 : ¬ (atR l K).1 = 2 := by omega
      rw [if_neg e1, if_neg e2]; exact c_code_few a b hE
    · rw [h, h']; exact c_code_sen (i := 0) (by omega) hS
  generalize atE l K = E at *
  generalize hV : atV s l K = V at *
  generalize atC l K = C at *
  have hvk : (∀ t, V.kill t = V) ∧ gvV V = V ∧ hdV V = V ∧ lfV V = V ∧ V.cls .left = V ∧ (∀ m, cpV m V = V) ∧ (∀ m, cpS m V = V) ∧ V.plain = true ∧ V.cells = [V] ∧ V.several = false ∧ ∀ st n, takeU V st n = (V, st.set n V) := by
    rcases hcs with ⟨h, _⟩ | ⟨a, b, h, _⟩ | ⟨h, _⟩ <;> rw [h] <;>
      exact ⟨fun _ => rfl, rfl, rfl, rfl, rfl, fun m => by cases m <;> rfl, fun m => by cases m <;> rfl, rfl, rfl, rfl, fun _ _ => rfl⟩
  obtain ⟨q1, q2, q3, q4, q5, q6, q7, q8, q9, q10, q11⟩ := hvk
  have h2 : ∀ hE : H, Sens hE.Γ s → callω fns 60 [bAV 5 (some l), .int .u64 K] hE = some (.tup [bAV 5 E, V], hE) := by
    intro hE hS
    have h1' := h1 hE.mask hS
    refine run60 (Nat.le_of_ble_eq_true rfl) ?_
    simp [h1', ex2_0, ex2_1, q1, q2, q3, q4, q5, q6, q7, q8, q9, q10, q11]
  have h3 : ∀ hE : H, Sens hE.Γ s → callω fns 44 [bAV 5 (some l), .int .u64 K] hE = some (.tup [bAV 5 E, V], hE) := by
    intro hE hS
    have h2' := h2 hE.mask hS
    refine run44 (Nat.le_of_ble_eq_true rfl) ?_
    simp [h2', ex2_0, ex2_1, q1, q2, q3, q4, q5, q6, q7, q8, q9, q10, q11]
  have h3' := h3 hE.mask hS
  have h4 := hcode hE.mask hS
  refine run21 (Nat.le_of_ble_eq_true rfl) ?_
  simp [hw, h3', h4, ho, ex2_0, ex2_1, q1, q2, q3, q4, q5, q6, q7, q8, q9, q10, q11]
end Go.Proofs.YtdnfnobgeddbfaaDoor.Abs
