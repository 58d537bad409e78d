/- EB7, TR8 -/
import Derived.Test.YtdnfnobgeddbfaaDoorEB6
import Derived.Test.YtdnfnobgeddbfaaDoorTR7
/- The upper layer and the thin one, over a document of any bytes: values, the element with a number. -/
namespace Go.Proofs.YtdnfnobgeddbfaaDoor.Abs
set_option linter.all false
open Go.Proofs
set_option linter.unusedVariables false
set_option linter.unusedSimpArgs false
set_option maxRecDepth 100000
set_option maxHeartbeats 8000000

theorem c_fromCore (k : Int) (o : Option (List UInt8)) : ∀ hE : H, callω fns 56 [.agg [.int .u8 k, bAV 5 o]] hE = some (.agg [.int .u8 k, bAV 5 o], hE) := by
  intro hE
  refine run56 (Nat.le_of_ble_eq_true rfl) ?_
  simp
theorem c_some1 (k : Int) (h0 : 0 ≤ k) (h1 : k < 256) (o : Option (List UInt8)) (hl : (bl o).length < 2147483648) : ∀ hE : H, callω fns 37 [.agg [.int .u8 k, bAV 5 o]] hE = some (.agg [.int .i64 k, bAV 5 (oB (bl o))], hE) := by
  intro hE
  have w : IntKind.i64.wrap k = k := wrap_i64 (by omega) (by omega)
  have ho := c_own o hl
  refine run37 (Nat.le_of_ble_eq_true rfl) ?_
  simp [w, ho, oB]
theorem RS.fv_at2 {e : Nat} {b : RS} {k m : Nat} {pre r : List AV} (h : b.l = pre ++ r) (hp : pre.length = k * 2) (hm : b.l.length = m * 2) (hk : k < m) : ixV 2 (b.fv e 2) (.int .i64 (k : Int)) = some (.eptr r) := by
  rw [RS.fv_ix (by omega) hm hk, h, ← hp, List.drop_left]
theorem l_RawValues {v5 : AV} (h5k : ∀ t, v5.kill t = v5) : ∀ (rest pre : List (List UInt8)) (L acc : RS) (st : St), st.s 5 = v5 → st.s 17 = L.fv 108 2 → L.l = valsC 5 (pre ++ rest) → st.s 18 = .int .i64 (pre ++ rest).length → st.s 19 = .int .i64 pre.length → st.s 6 = acc.av 71 2 →
    (pre ++ rest).length < 2147483648 → acc.l.length ≤ pre.length * 2 → ∀ Q : Ex × St → Prop, (∀ st' : St, st'.h = st.h → st'.s 5 = v5 → st'.s 6 = (acc.app (valsC 5 rest)).av 71 2 → Q (.exit 0, st')) → LoopR fns lc41_0 st Q
  | [], pre, L, acc, st, h5, h1, hL, h2, h3, h4, hl, hc, Q, hA => by
    refine loopω_run fns ?_
    simp [h2, h3]
    refine hA _ ?_ ?_ ?_ <;> simp [h4, h5, RS.app_nil, valsC]
  | x :: rest, pre, L, acc, st, h5, h1, hL, h2, h3, h4, hl, hc, Q, hA => by
    refine loopω_run fns ?_
    have hd : (pre.length : Int) < pre.length + (rest.length + 1) := by omega
    have hw : IntKind.i64.wrap ((pre.length : Int) + 1) = pre.length + 1 := wrap_i64 (by omega) (by simp at hl; omega)
    have hx := RS.fv_at2 (e := 108) (b := L) (k := pre.length) (m := pre.length + (rest.length + 1)) (pre := valsC 5 pre) (r := valsC 5 (x :: rest)) (by rw [hL, valsC_append]) (by simp) (by rw [hL]; simp) (by omega)
    rw [valsC_cons] at hx
    have hf := c_fromCore (kv x).1 (some (kv x).2)
    have hv : valsC 5 (x :: rest) = [.int .u8 (kv x).1, bAV 5 (some (kv x).2)] ++ valsC 5 rest := rfl
    rw [hv] at hA
    generalize (kv x).1 = K at *
    generalize (kv x).2 = D at *
    have ha : ∀ hp : H, apV hp 71 2 32 false (acc.av 71 2) (.slice (.own true) 71 2 [.int .u8 K, bAV 5 (some D)]) = some ((acc.app [.int .u8 K, bAV 5 (some D)]).av 71 2) := fun hp =>
      RS.apV (by simp only [List.length_cons, List.length_nil, tooLong]; simp at hl; omega) (by simp only [List.length_cons, List.length_nil, tooLong]; simp at hl; omega)
    simp [h1, h2, h3, h4, hd, hx, ha, hw, hf]
    refine l_RawValues h5k rest (pre ++ [x]) L (acc.app [.int .u8 K, bAV 5 (some D)]) _ ?_ ?_ ?_ ?_ ?_ ?_ ?_ ?_ Q (fun st' k1 k0 k2 => hA st' ?_ ?_ ?_)
    · simp [h5, h5k]
    · simp [h1]
    · rw [hL]; simp
    · simp [h2]
    · simp
    · simp
    · simpa using hl
    · rw [RS.l_app]; simp; omega
    · rw [k1]
    · exact k0
    · rw [k2, RS.app_app]
theorem l_somes : ∀ (rest pre : List (List UInt8)) (L acc : RS) (st : St), st.s 6 = L.fv 71 2 → L.l = valsC 5 (pre ++ rest) → st.s 7 = .int .i64 (pre ++ rest).length → st.s 8 = .int .i64 pre.length → st.s 3 = acc.av 29 2 →
    (pre ++ rest).length < 2147483648 → (∀ e ∈ rest, e.length < 2147483648) → acc.l.length ≤ pre.length * 2 → ∀ Q : Ex × St → Prop, (∀ st' : St, st'.h = st.h → st'.s 3 = (acc.app (rawsC 5 rest)).av 29 2 → Q (.exit 0, st')) → LoopR fns lc42_0 st Q
  | [], pre, L, acc, st, h1, hL, h2, h3, h4, hl, hr, hc, Q, hA => by
    refine loopω_run fns ?_
    simp [h2, h3]
    refine hA _ ?_ ?_ <;> simp [h4, RS.app_nil, rawsC]
  | x :: rest, pre, L, acc, st, h1, hL, h2, h3, h4, hl, hr, hc, Q, hA => by
    refine loopω_run fns ?_
    have hd : (pre.length : Int) < pre.length + (rest.length + 1) := by omega
    have hw : IntKind.i64.wrap ((pre.length : Int) + 1) = pre.length + 1 := wrap_i64 (by omega) (by simp at hl; omega)
    have hx := RS.fv_at2 (e := 71) (b := L) (k := pre.length) (m := pre.length + (rest.length + 1)) (pre := valsC 5 pre) (r := valsC 5 (x :: rest)) (by rw [hL, valsC_append]) (by simp) (by rw [hL]; simp) (by omega)
    rw [valsC_cons] at hx
    have hkr := kv_range x
    have hf := c_some1 (kv x).1 hkr.1 hkr.2 (some (kv x).2) (by have := kv_len x; have := hr x List.mem_cons_self; simp only [bl]; omega)
    simp only [bl] at hf
    have hv : rawsC 5 (x :: rest) = [.int .i64 (kv x).1, bAV 5 (oB (kv x).2)] ++ rawsC 5 rest := rfl
    rw [hv] at hA
    generalize (kv x).1 = K at *
    generalize (kv x).2 = D at *
    generalize oB D = OD at *
    have ha : ∀ hp : H, apV hp 29 2 32 false (acc.av 29 2) (.slice (.own true) 29 2 [.int .i64 K, bAV 5 OD]) = some ((acc.app [.int .i64 K, bAV 5 OD]).av 29 2) := fun hp =>
      RS.apV (by simp only [List.length_cons, List.length_nil, tooLong]; simp at hl; omega) (by simp only [List.length_cons, List.length_nil, tooLong]; simp at hl; omega)
    simp [h1, h2, h3, h4, hd, hx, ha, hw, hf]
    refine l_somes rest (pre ++ [x]) L (acc.app [.int .i64 K, bAV 5 OD]) _ ?_ ?_ ?_ ?_ ?_ ?_ (fun e he => hr e (List.mem_cons_of_mem _ he)) ?_ Q (fun st' k1 k2 => hA st' ?_ ?_)
    · simp [h1]
    · rw [hL]; simp
    · simp [h2]
    · simp
    · simp
    · simpa using hl
    · rw [RS.l_app]; simp; omega
    · rw [k1]
    · rw [k2, RS.app_app]
theorem RS.mk_cases (l : List AV) : (l = [] ∧ RS.mk l = RS.nil) ∨ (l ≠ [] ∧ RS.mk l = RS.own true l) := by
  cases l with
  | nil => exact .inl ⟨rfl, rfl⟩
  | cons a r => exact .inr ⟨by simp, rfl⟩
/-- What is told of a document's values, whatever its bytes. -/
def valsOf (l : List UInt8) : List (List UInt8) := if okL l then (dR l).1 else []
def valsGood (l : List UInt8) : Bool := okL l && (dR l).2
theorem c_RawVals (l : List UInt8) (hl : l.length < 2147483648) : ∃ v, (v = .nilI ∨ ∃ a b, v = xFew a b) ∧ (v = .nilI ↔ valsGood l = true) ∧ ∀ hE : H, callω fns 41 [bAV 5 (some l)] hE =
    some (.tup [(RS.own true (valsC 5 (valsOf l))).av 71 2, v], hE) := by
  have h := c_values l hl
  have hlen : (dR l).1.length ≤ l.length := by
    have := (elemsR_len (l.length + 1) (num32 l - 4) (l.drop 4)).2
    rw [List.length_drop] at this
    unfold dR; omega
  have hv : ∃ v, (v = .nilI ∨ ∃ a b, v = xFew a b) ∧ (v = .nilI ↔ valsGood l = true) ∧ ∀ hE : H, callω fns 78 [bAV 5 (some l)] hE = some (.tup [(RS.mk (valsC 5 (valsOf l))).av 108 2, v], hE) := by
    unfold valsOf valsGood
    cases hk : okL l with
    | false =>
      rw [hk] at h
      exact ⟨xFew (some l) (rest4 (some l)), .inr ⟨_, _, rfl⟩, ⟨fun e => (by cases e), fun e => (by cases e)⟩, fun hE => h hE⟩
    | true =>
      rw [hk] at h
      cases hg : (dR l).2 with
      | false =>
        rw [hg] at h
        exact ⟨xFew (dE (fun _ => none) l).1 (dE (fun _ => none) l).2, .inr ⟨_, _, rfl⟩, ⟨fun e => (by cases e), fun e => (by cases e)⟩, fun hE => h hE⟩
      | true =>
        rw [hg] at h
        exact ⟨.nilI, .inl rfl, ⟨fun _ => rfl, fun _ => rfl⟩, fun hE => h hE⟩
  have hvl : (valsOf l).length ≤ l.length := by unfold valsOf; split; { exact hlen }; { simp }
  generalize valsOf l = es at *
  obtain ⟨v, v1, v2, hc⟩ := hv
  refine ⟨v, v1, v2, fun hE => ?_⟩
  have hd : ∀ hE : H, callω fns 58 [bAV 5 (some l)] hE = some (.tup [(RS.mk (valsC 5 es)).av 108 2, v], hE) := by
    intro hE
    refine run58 (Nat.le_of_ble_eq_true rfl) ?_
    rcases v1 with rfl | ⟨a, b, rfl⟩ <;> (try simp only [xFew] at hc) <;> simp [hc, ex2_0, ex2_1, xFew]
  refine run41 (Nat.le_of_ble_eq_true rfl) ?_
  have hL : (RS.mk (valsC 5 es)).l = valsC 5 es := RS.l_mk _
  have hn : aLen false ((RS.mk (valsC 5 es)).lv 108 2) = some (.int .i64 es.length) := RS.lv_len (by omega) (by rw [hL]; simp)
  have hn2 : aLen false ((RS.mk (valsC 5 es)).fv 108 2) = some (.int .i64 es.length) := RS.fv_len (by omega) (by rw [hL]; simp)
  generalize RS.mk (valsC 5 es) = L at *
  have hmk : ∀ st : St, mkV false 71 2 32 [.int .u8 0, .slice .nil 0 1 []] (.int .i64 0) (.int .i64 es.length) st = some ((RS.own true []).av 71 2, st) := fun st => by
    simp only [mkV, mkN]
    rw [if_pos ⟨trivial, trivial, by omega, by omega, by simp only [tooLong]; omega, by simp only [tooLong]; omega⟩]
    simp [RS.av, repCells]
  have hvk : (∀ t, v.kill t = v) ∧ gvV v = v ∧ hdV v = v ∧ lfV v = v ∧ v.cls .left = v ∧ (∀ m, cpV m v = v) ∧ (∀ m, cpS m v = v) ∧ v.plain = true ∧ v.cells = [v] ∧ v.several = false ∧ ∀ st n, takeU v st n = (v, st.set n v) := by
    rcases v1 with rfl | ⟨a, b, rfl⟩
    · exact ⟨fun _ => rfl, rfl, rfl, rfl, rfl, fun m => by cases m <;> rfl, fun m => by cases m <;> rfl, rfl, rfl, rfl, fun _ _ => rfl⟩
    · exact ⟨fun _ => rfl, rfl, rfl, rfl, rfl, fun m => by cases m <;> rfl, fun m => by cases m <;> rfl, rfl, rfl, rfl, fun _ _ => rfl⟩
  obtain ⟨q1, q2, q3, q4, q5, q6, q7, q8, q9, q10, q11⟩ := hvk
  simp [hd, ex2_0, ex2_1, hn, hn2, hmk, q1, q2, q3, q4, q5, q6, q7, q8, q9, q10, q11]
  refine l_RawValues q1 es [] L (RS.own true []) _ ?_ ?_ ?_ ?_ ?_ ?_ ?_ ?_ _ (fun st' k1 k0 k2 => ?_)
  · simp
  · simp
  · simpa using hL
  · simp
  · simp
  · simp
  · simp; omega
  · simp [RS.l]
  · rw [RS.own_app, List.nil_append] at k2
    simp [k1, k2, k0, q1, q2, q3, q4, q5, q6, q7, q8, q9, q10, q11]
theorem valsOf_mem (l : List UInt8) (hl : l.length < 2147483648) : ∀ e ∈ valsOf l, e.length < 2147483648 ∧ e ≠ [] := by
  intro e he
  unfold valsOf at he
  split at he
  · have h1 := mem_flat_len he
    have h2 := (elemsR_len (l.length + 1) (num32 l - 4) (l.drop 4)).1
    rw [List.length_drop] at h2
    exact ⟨by unfold dR at h1; omega, elemsR_ne _ _ _ e he⟩
  · cases he
theorem c_impVals (l : List UInt8) (hl : l.length < 2147483648) : ∀ hE : H, callω fns 18 [bAV 5 (some l)] hE =
    some (.tup [(RS.mk (rawsC 5 (valsOf l))).av 29 2, .bool (valsGood l)], hE) := by
  intro hE
  obtain ⟨v, v1, v2, h⟩ := c_RawVals l hl
  have hmem := valsOf_mem l hl
  have hvl : (valsOf l).length ≤ l.length := by
    have := (elemsR_len (l.length + 1) (num32 l - 4) (l.drop 4)).2
    rw [List.length_drop] at this
    unfold valsOf dR; split; { omega }; { simp }
  generalize valsOf l = es at *
  have hL : (RS.own true (valsC 5 es)).l = valsC 5 es := rfl
  have hn : aLen false ((RS.own true (valsC 5 es)).lv 71 2) = some (.int .i64 es.length) := RS.lv_len (by omega) (by rw [hL]; simp)
  have hn2 : aLen false ((RS.own true (valsC 5 es)).fv 71 2) = some (.int .i64 es.length) := RS.fv_len (by omega) (by rw [hL]; simp)
  generalize RS.own true (valsC 5 es) = L at *
  have hs : ∀ hE : H, callω fns 42 [L.fv 71 2] hE = some ((RS.mk (rawsC 5 es)).av 29 2, hE) := by
    intro hE
    refine run42 (Nat.le_of_ble_eq_true rfl) ?_
    simp [hn, hn2]
    refine l_somes es [] L RS.nil _ ?_ ?_ ?_ ?_ ?_ ?_ (fun e he => (hmem e he).1) ?_ _ (fun st' k1 k2 => ?_)
    · simp
    · simpa using hL
    · simp
    · simp
    · simp [RS.av]
    · simp; omega
    · simp [RS.l]
    · rw [RS.nil_app] at k2
      simp [k1, k2]
  refine run18 (Nat.le_of_ble_eq_true rfl) ?_
  have hg : valsGood l = true ∨ valsGood l = false := by cases valsGood l <;> simp
  rcases v1 with rfl | ⟨a, b, rfl⟩
  · rw [v2.1 rfl]
    simp [h, hs, ex2_0, ex2_1]
  · have : valsGood l = false := by
      rcases hg with hg | hg
      · exact absurd (v2.2 hg) (by intro e; cases e)
      · exact hg
    rw [this]
    simp only [xFew] at h
    simp [h, hs, ex2_0, ex2_1]
end Go.Proofs.YtdnfnobgeddbfaaDoor.Abs

/- Right documents' bytes: what is read of them. -/
namespace Go.Proofs.YtdnfnobgeddbfaaDoor.Abs
set_option linter.all false

theorem num32_le32 {m : Int} {r : List UInt8} (h0 : -2147483648 ≤ m) (h1 : m < 2147483648) : num32 (le32 m ++ r) = m := by
  show rd32 _ _ _ _ = m
  exact rd32_le32 h0 h1
theorem lenD_le32 {m d : Int} {r : List UInt8} (h0 : 0 ≤ m) (hd : 0 ≤ d) (h1 : m + d < 2147483648) : lenD d (le32 m ++ r) = some (m + d).toNat := by
  unfold lenD
  rw [num32_le32 (by omega) (by omega), if_pos ⟨by simp [le32_length], h0, h1⟩]
theorem knownK_cases {k : Int} (h : knownK k = true) : k = 1 ∨ k = 2 ∨ k = 3 ∨ k = 4 ∨ k = 5 ∨ k = 6 ∨ k = 7 ∨ k = 8 ∨ k = 9 ∨ k = 10 ∨ k = 11 ∨ k = 12 ∨ k = 13 ∨ k = 14 ∨ k = 15 ∨ k = 16 ∨ k = 17 ∨ k = 18 ∨ k = 19 ∨ k = 127 ∨ k = 255 := by
  simp [knownK] at h; omega
theorem kind_range {v : Tr} {d : Nat} (h : v.right d = true) : 0 ≤ v.kind ∧ v.kind < 256 := by
  cases v with
  | mk k t m n bi hi bb kn ks =>
  simp only [Tr.right, Bool.and_eq_true] at h
  have := knownK_cases h.1
  simp only [Tr.kind]; omega
theorem rxLen_regex {t m r : List UInt8} (ht : plainL t = true) (hm : plainL m = true) : rxLen (t ++ (0 :: (m ++ [0])) ++ r) = some (t.length + m.length + 2) := by
  unfold rxLen
  rw [List.append_assoc, List.cons_append, nul_plain ht]
  have e : (t ++ 0 :: ((m ++ [0]) ++ r)).drop (t.length + 1) = m ++ 0 :: r := by
    rw [List.drop_append]
    simp
  simp only [Option.bind_some, e, nul_plain hm, Option.map_some]
  congr 1; omega
/-- A right value is as long as its bytes say. -/
theorem vLen_val (v : Tr) {dd : Nat} (hR : v.right dd = true) (hs : v.sz ≤ 1000000000) (r : List UInt8) : vLen v.kind (v.val ++ r) = some v.val.length := by
  cases v with
  | mk k t m n bi hi bb kn ks =>
  simp only [Tr.right, Bool.and_eq_true] at hR
  obtain ⟨hk, hd, hbare, hR⟩ := hR
  have hb := Ks.body_le ks
  simp only [Tr.sz, Tr.nb, Tr.nodes] at hs
  have htl := txtL_length t
  simp only [Tr.kind]
  have txt : ∀ r : List UInt8, txtL t ++ r = le32 (t.length + 1) ++ (t ++ [0] ++ r) := fun r => by simp [txtL]
  have nat : ∀ {a : Int} {b : Nat}, a = b → some a.toNat = some b := fun h => by rw [h]; rfl
  rcases knownK_cases hk with rfl | rfl | rfl | rfl | rfl | rfl | rfl | rfl | rfl | rfl | rfl | rfl | rfl | rfl | rfl | rfl | rfl | rfl | rfl | rfl | rfl
  · rfl
  · have hv : (Tr.mk 2 t m n bi hi bb kn ks).val = txtL t := by simp [Tr.val]
    rw [hv]; show lenD 4 _ = _
    rw [txt, lenD_le32 (by omega) (by omega) (by omega)]; exact nat (by rw [htl]; omega)
  · have hv : (Tr.mk 3 t m n bi hi bb kn ks).val = le32 ((ks.body.length : Int) + 5) ++ (ks.body ++ [0]) := by simp [Tr.val]
    rw [hv]; show lenD 0 _ = _
    rw [List.append_assoc, lenD_le32 (by omega) (by omega) (by omega)]; exact nat (by simp [le32_length]; omega)
  · have hv : (Tr.mk 4 t m n bi hi bb kn ks).val = le32 ((ks.body.length : Int) + 5) ++ (ks.body ++ [0]) := by simp [Tr.val]
    rw [hv]; show lenD 0 _ = _
    rw [List.append_assoc, lenD_le32 (by omega) (by omega) (by omega)]; exact nat (by simp [le32_length]; omega)
  · by_cases n2 : n = 2
    · subst n2
      have hv : (Tr.mk 5 t m 2 bi hi bb kn ks).val = le32 (((bl bb).length : Int) + 4) ++ (2 :: (le32 (bl bb).length ++ bl bb)) := by simp [Tr.val]
      rw [hv]; show lenD 5 _ = _
      rw [List.append_assoc, lenD_le32 (by omega) (by omega) (by omega)]; exact nat (by simp [le32_length]; omega)
    · have hv : (Tr.mk 5 t m n bi hi bb kn ks).val = le32 ((bl bb).length : Int) ++ (byteOf n :: bl bb) := by simp [Tr.val, n2]
      rw [hv]; show lenD 5 _ = _
      rw [List.append_assoc, lenD_le32 (by omega) (by omega) (by omega)]; exact nat (by simp [le32_length]; omega)
  · rfl
  · simp only [Int.reduceEq, if_false, or_self, or_false, if_true, true_or, decide_eq_true_eq] at hR
    have hv : (Tr.mk 7 t m n bi hi bb kn ks).val = bl bb := by simp [Tr.val]
    rw [hv, hR]; rfl
  · rfl
  · rfl
  · rfl
  · simp at hR
    have hv : (Tr.mk 11 t m n bi hi bb kn ks).val = t ++ (0 :: (m ++ [0])) := by simp [Tr.val]
    rw [hv]; show rxLen _ = _
    rw [rxLen_regex hR.1 hR.2]; simp; omega
  · simp at hR
    have hv : (Tr.mk 12 t m n bi hi bb kn ks).val = txtL t ++ bl bb := by simp [Tr.val]
    rw [hv]; show lenD 16 _ = _
    rw [List.append_assoc, txt, lenD_le32 (by omega) (by omega) (by omega)]; exact nat (by rw [List.length_append, htl, hR]; omega)
  · have hv : (Tr.mk 13 t m n bi hi bb kn ks).val = txtL t := by simp [Tr.val]
    rw [hv]; show lenD 4 _ = _
    rw [txt, lenD_le32 (by omega) (by omega) (by omega)]; exact nat (by rw [htl]; omega)
  · have hv : (Tr.mk 14 t m n bi hi bb kn ks).val = txtL t := by simp [Tr.val]
    rw [hv]; show lenD 4 _ = _
    rw [txt, lenD_le32 (by omega) (by omega) (by omega)]; exact nat (by rw [htl]; omega)
  · have hv : (Tr.mk 15 t m n bi hi bb kn ks).val = le32 (4 + (txtL t).length + ((Ks.body ks).length + 5)) ++ (txtL t ++ (le32 ((Ks.body ks).length + 5) ++ (Ks.body ks ++ [0]))) := by simp [Tr.val]
    rw [hv]; show lenD 0 _ = _
    rw [List.append_assoc, lenD_le32 (by omega) (by omega) (by omega)]; exact nat (by simp [le32_length]; omega)
  · rfl
  · rfl
  · rfl
  · rfl
  · rfl
  · rfl
/-- It has at least four bytes, if it is one that says so. -/
theorem val_four (v : Tr) (hk : v.kind = 3 ∨ v.kind = 4 ∨ v.kind = 15) : 4 ≤ v.val.length := by
  cases v with
  | mk k t m n bi hi bb kn ks =>
  simp only [Tr.kind] at hk
  rcases hk with rfl | rfl | rfl <;> simp [Tr.val, le32_length] <;> omega
theorem vGet_val (v : Tr) {dd : Nat} (hR : v.right dd = true) (hs : v.sz ≤ 1000000000) (r : List UInt8) : vGet v.kind (v.val ++ r) = some v.val.length := by
  simp only [vGet, vLen_val v hR hs r, Option.bind_some, List.length_append]
  rw [if_pos (by omega)]
theorem byteOf_kind {v : Tr} {dd : Nat} (hR : v.right dd = true) : ((byteOf v.kind).toNat : Int) = v.kind := by
  have := kind_range hR
  rw [byteOf_toNat]; omega
theorem elemL_length (nm : List UInt8) (v : Tr) : (elemL nm v).length = nm.length + 2 + v.val.length := by simp [elemL, hdL_length]
theorem elemL_eq (nm : List UInt8) (v : Tr) (r : List UInt8) : elemL nm v ++ r = byteOf v.kind :: (nm ++ 0 :: (v.val ++ r)) := by simp [elemL, hdL]
/-- An element ahead of anything. -/
theorem eGet_elem {nm : List UInt8} {v : Tr} {dd : Nat} (hp : plainL nm = true) (hR : v.right dd = true) (hs : v.sz ≤ 1000000000) (r : List UInt8) : eGet (elemL nm v ++ r) = some (elemL nm v).length := by
  rw [elemL_eq, elemL_length]
  show (nul (nm ++ 0 :: (v.val ++ r))).bind _ = _
  rw [nul_plain hp]
  have e : (nm ++ 0 :: (v.val ++ r)).drop (nm.length + 1) = v.val ++ r := by rw [List.drop_append]; simp
  simp only [Option.bind_some, e, byteOf_kind hR, vLen_val v hR hs r]
  rw [if_pos (by simp; omega)]
theorem eParts_elem {nm : List UInt8} {v : Tr} (hp : plainL nm = true) : eParts (elemL nm v) = some (byteOf v.kind, nm, v.val) := by
  have h := elemL_eq nm v []
  rw [List.append_nil, List.append_nil] at h
  rw [h]
  show (nul (nm ++ 0 :: v.val)).map _ = _
  rw [nul_plain hp]
  simp
theorem eOk_elem {nm : List UInt8} {v : Tr} {dd : Nat} (hp : plainL nm = true) (hR : v.right dd = true) (hs : v.sz ≤ 1000000000) : eOk (elemL nm v) = true := by
  unfold eOk
  rw [eParts_elem hp]
  simp only [byteOf_kind hR]
  have := vGet_val v hR hs []
  rw [List.append_nil] at this
  rw [this]; rfl
theorem kv_elem {nm : List UInt8} {v : Tr} {dd : Nat} (hp : plainL nm = true) (hR : v.right dd = true) : kv (elemL nm v) = (v.kind, v.val) := by
  unfold kv
  rw [eParts_elem hp]
  simp only [byteOf_kind hR]

/-- Names and values that are right, whatever holds them. -/
def Ks.good : Ks → Prop
  | .nil => True
  | .cons nm v r => plainL nm = true ∧ (∃ d, v.right d = true) ∧ Ks.good r
theorem Ks.right_good : ∀ {ks : Ks} {arr : Bool} {i d : Nat}, ks.right arr i d = true → ks.good
  | .nil, _, _, _, _ => trivial
  | .cons nm v r, arr, i, d, h => by
    simp only [Ks.right, Bool.and_eq_true] at h
    exact ⟨h.1, ⟨d, h.2.2.1⟩, Ks.right_good h.2.2.2⟩
theorem Ks.sz_cons (nm : List UInt8) (v : Tr) (r : Ks) : (Ks.cons nm v r).sz = nm.length + v.sz + r.sz := by simp only [Ks.sz, Tr.sz, Ks.nb, Ks.nodes]; omega
theorem elemsR_body : ∀ (ks : Ks) (f : Nat) (e : List UInt8), ks.good → ks.sz ≤ 1000000000 → ks.body.length < f → e.length ≤ 1 →
    elemsR f (ks.body.length + e.length : Nat) (ks.body ++ e) = (ks.elems, true) ∧ elemsT f (ks.body.length + e.length : Nat) (ks.body ++ e) = e ∧
    ∀ k, elemAt f (ks.body.length + e.length : Nat) (ks.body ++ e) k = (match ks.elems[k]? with | some x => (0, x) | none => (2, []))
  | .nil, f + 1, e, _, _, _, he => by
    simp only [Ks.body, List.length_nil, Nat.zero_add, List.nil_append, elemsR, elemsT, elemAt, Ks.elems]
    have : ((e.length : Nat) : Int) ≤ 1 := by omega
    rw [if_pos this, if_pos this]
    refine ⟨rfl, rfl, fun k => ?_⟩
    rw [if_pos this]; rfl
  | .cons nm v r, f + 1, e, hg, hs, hf, he => by
    obtain ⟨hp, ⟨d, hR⟩, hgr⟩ := hg
    rw [Ks.sz_cons] at hs
    have hb : (Ks.cons nm v r).body ++ e = elemL nm v ++ (r.body ++ e) := by simp [Ks.body, elemL, hdL]
    have hbl : (Ks.cons nm v r).body.length = (elemL nm v).length + r.body.length := by simp [Ks.body, elemL, hdL]; omega
    have hel := elemL_length nm v
    have hge := eGet_elem hp hR (by omega) (r.body ++ e)
    have hok := eOk_elem hp hR (by omega : v.sz ≤ 1000000000)
    have hn : ¬ (((Ks.cons nm v r).body.length + e.length : Nat) : Int) ≤ 1 := by omega
    have htk : (elemL nm v ++ (r.body ++ e)).take (elemL nm v).length = elemL nm v := by simp
    have hdr : (elemL nm v ++ (r.body ++ e)).drop (elemL nm v).length = r.body ++ e := by simp
    have hnn : ((((Ks.cons nm v r).body.length + e.length : Nat) : Int) - ((elemL nm v).length : Nat)) = ((r.body.length + e.length : Nat) : Int) := by omega
    obtain ⟨i1, i2, i3⟩ := elemsR_body r f e hgr (by omega) (by omega) he
    simp only [elemsR, elemsT, elemAt, hb]
    rw [if_neg hn, if_neg hn]
    simp only [hge, htk, hdr, hok, if_true, hnn, i1, i2, Ks.elems]
    refine ⟨trivial, trivial, fun k => ?_⟩
    rw [if_neg hn]
    cases k with
    | zero => rfl
    | succ k => simp only [i3]; rfl
  | ks, 0, e, _, _, hf, _ => by omega
theorem doc_num (ks : Ks) (hs : ks.sz ≤ 1000000000) : num32 ks.doc = ks.body.length + 5 ∧ ks.doc.drop 4 = ks.body ++ [0] := by
  have hb := Ks.body_le ks
  simp only [Ks.sz] at hs
  refine ⟨?_, rfl⟩
  unfold Ks.doc
  rw [num32_le32 (by omega) (by omega)]
end Go.Proofs.YtdnfnobgeddbfaaDoor.Abs
