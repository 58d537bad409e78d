/- An array made of values; its values and the one with a number, through the thin layer. -/
import Derived.Test.YtcodfehgnjplcaaGreatDoorEAw2
import Derived.Test.YtcodfehgnjplcaaGreatDoorEFacts
import Derived.Test.YtcodfehgnjplcaaGreatDoorEDoc5
namespace Go.Proofs.YtcodfehgnjplcaaGreatDoor.Abs
set_option linter.all false
open Go.Proofs
set_option linter.unusedVariables false
set_option linter.unusedSimpArgs false
set_option maxRecDepth 100000
set_option maxHeartbeats 8000000

def arrK : List Tr → Nat → Ks
  | [], _ => .nil
  | v :: r, i => .cons (digL i) v (arrK r (i + 1))
theorem arrK_len : ∀ (vs : List Tr) (i : Nat), (arrK vs i).len = vs.length
  | [], _ => rfl
  | v :: r, i => by simp [arrK, Ks.len, arrK_len r]
def vFl (vs : List Tr) : List AV := vs.flatMap fun v => v.cells 5 66
theorem vFl_length : ∀ vs : List Tr, (vFl vs).length = vs.length * 8
  | [] => rfl
  | v :: r => by
    have := vFl_length r
    simp only [vFl, List.flatMap_cons, List.length_append, List.length_cons] at this ⊢
    rw [this]
    cases v; simp [Tr.cells]; omega
theorem RS.fv_at8 {e : Nat} {b : RS} {k m : Nat} {pre r : List AV} (h : b.l = pre ++ r) (hp : pre.length = k * 8) (hm : b.l.length = m * 8) (hk : k < m) : ixV 8 (b.fv e 8) (.int .i64 (k : Int)) = some (.eptr r) := by
  rw [RS.fv_ix (by omega) hm hk, h, List.drop_left' hp]
theorem l_docArray {b : RS} {vs : List Tr} (hb : b.l = vFl vs) (hvs : vs.length ≤ 2147483647) : ∀ (rest pre : List Tr) (acc : RS) (st : St), vs = pre ++ rest → st.s 0 = b.fv 44 8 → st.s 4 = .int .i64 pre.length → st.s 2 = .ptr (.loc 2) 0 → st.s 3 = .ptr (.loc 3) 0 →
    st.b 2 = some (.cells [.int .i64 0, .str [], .str [], .int .i64 0, .int .u64 0, .int .u64 0, .slice .nil 0 1 [], .slice .nil 0 1 []]) → st.b 3 = some (.cells [.int .i64 4, .str [], .str [], .int .i64 0, .int .u64 0, .int .u64 0, .slice .nil 0 1 [], acc.av 66 9]) → acc.l.length = pre.length * 9 → ∀ Q : Ex × St → Prop,
    (∀ st' : St, st'.h = st.h → st'.s 2 = .ptr (.loc 2) 0 → st'.s 3 = .ptr (.loc 3) 0 → st'.b 2 = st.b 2 → st'.b 3 = some (.cells [.int .i64 4, .str [], .str [], .int .i64 0, .int .u64 0, .int .u64 0, .slice .nil 0 1 [], (acc.app ((arrK rest pre.length).flat 5 66)).av 66 9]) → Q (.exit 0, st')) → LoopR fns lc22_0 st Q
  | [], pre, acc, st, hp, h0, h4, h2, h3, hb2, hb3, ha, Q, hA => by
    refine loopω_run fns ?_
    have hn : aLen false (b.fv 44 8) = some (.int .i64 pre.length) := RS.fv_len (by omega) (by rw [hb, vFl_length, hp]; simp)
    have hl : aLen false (b.lv 44 8) = some (.int .i64 pre.length) := RS.lv_len (by omega) (by rw [hb, vFl_length, hp]; simp)
    simp [h0, h4, hn, hl]
    refine hA _ ?_ ?_ ?_ ?_ ?_ <;> simp [h2, h3, hb3, arrK, Ks.flat, RS.app_nil]
  | v :: rest, pre, acc, st, hp, h0, h4, h2, h3, hb2, hb3, ha, Q, hA => by
    refine loopω_run fns ?_
    have hlen : vs.length = pre.length + (rest.length + 1) := by rw [hp]; simp
    have hlt : (pre.length : Int) < pre.length + (rest.length + 1) := by omega
    have hn : aLen false (b.fv 44 8) = some (.int .i64 ((pre.length : Int) + (rest.length + 1))) := by
      have := RS.fv_len (e := 44) (sz := 8) (b := b) (n := vs.length) (by omega) (by rw [hb, vFl_length]); rw [hlen] at this; simpa using this
    have hx := RS.fv_at8 (e := 44) (b := b) (k := pre.length) (m := vs.length) (pre := vFl pre) (r := v.cells 5 66 ++ vFl rest) (by rw [hb, hp]; simp [vFl]) (vFl_length pre) (by rw [hb, vFl_length]) (by omega)
    have hdg := c_DocDigits pre.length pre.length (Nat.le_refl _) (by omega)
    have ha2 : ∀ (hp : H) (xs : List AV), xs.length = 9 → apV hp 66 9 128 false (acc.av 66 9) (.slice (.own true) 66 9 xs) = some ((acc.app xs).av 66 9) := fun hp xs hx =>
      RS.apV (by rw [hx, ha]; simp only [tooLong]; omega) (by rw [hx, ha]; simp only [tooLong]; omega)
    have hk9 : ∀ xs : List AV, acc.app xs = acc.app xs := fun _ => rfl
    have hw : IntKind.i64.wrap ((pre.length : Int) + 1) = pre.length + 1 := wrap_i64 (by omega) (by omega)
    cases v with
    | mk k t m n bi hi bb kn ks =>
    simp only [Tr.cells, List.cons_append, List.nil_append] at hx
    have ha3 := fun hp => ha2 hp [.str (digL pre.length), .int .i64 k, .str t, .str m, .int .i64 n, .int .u64 bi, .int .u64 hi, bAV 5 bb, Ks.av 5 66 ks kn] (by simp)
    simp [h0, h4, h2, h3, hb2, hb3, hn, hlt, hx, hdg, hw, ha3]
    refine l_docArray hb hvs rest (pre ++ [.mk k t m n bi hi bb kn ks]) (acc.app [.str (digL pre.length), .int .i64 k, .str t, .str m, .int .i64 n, .int .u64 bi, .int .u64 hi, bAV 5 bb, Ks.av 5 66 ks kn]) _ ?_ ?_ ?_ ?_ ?_ ?_ ?_ ?_ Q (fun st' q1 q2 q3 q4 q5 => hA st' ?_ q2 q3 ?_ ?_)
    · rw [hp]; simp
    · simp [h0]
    · simp
    · simp [h2]
    · simp [h3]
    · simp [hb2]
    · simp
    · rw [RS.l_app]; simp [ha]; omega
    · rw [q1]
    · rw [q4]; simp
    · rw [q5, RS.app_app]; simp [arrK, Ks.flat, Tr.cells]
theorem arr_av (vs : List Tr) : (RS.mk ((arrK vs 0).flat 5 66)).fv 66 9 = Ks.av 5 66 (arrK vs 0) true := by
  cases vs with
  | nil => simp [arrK, Ks.flat, Ks.av, RS.mk, RS.app, RS.fv]
  | cons v r => simp [arrK, Ks.flat, Ks.av, RS.mk, RS.app, RS.fv]
theorem c_docArray (b : RS) (vs : List Tr) (hb : b.l = vFl vs) (hvs : vs.length ≤ 2147483647) : ∀ hE : H, callω fns 22 [b.fv 44 8] hE =
    some (.agg [.int .i64 4, .str [], .str [], .int .i64 0, .int .u64 0, .int .u64 0, .slice .nil 0 1 [], Ks.av 5 66 (arrK vs 0) true], hE) := by
  rw [← arr_av]
  intro hE
  refine run22 (Nat.le_of_ble_eq_true rfl) ?_
  simp
  refine l_docArray hb hvs vs [] RS.nil _ rfl ?_ ?_ ?_ ?_ ?_ ?_ ?_ _ (fun st' q1 q2 q3 q4 q5 => ?_)
  · simp
  · simp
  · simp
  · simp
  · simp
  · simp [RS.av]
  · simp [RS.l]
  · simp at q4
    rw [RS.nil_app] at q5
    simp [q1, q2, q3, q4, q5]
theorem RS.fv_at2 {e : Nat} {b : RS} {k m : Nat} {pre r : List AV} (h : b.l = pre ++ r) (hp : pre.length = k * 2) (hm : b.l.length = m * 2) (hk : k < m) : ixV 2 (b.fv e 2) (.int .i64 (k : Int)) = some (.eptr r) := by
  rw [RS.fv_ix (by omega) hm hk, h, ← hp, List.drop_left]
theorem l_raws : ∀ (rest pre : List (List UInt8)) (L acc : RS) (st : St), st.s 6 = L.fv 102 2 → L.l = valsC 5 (pre ++ rest) → st.s 7 = .int .i64 (pre ++ rest).length → st.s 8 = .int .i64 pre.length → st.s 3 = acc.av 32 2 →
    (pre ++ rest).length < 2147483648 → (∀ e ∈ rest, e.length < 2147483648) → acc.l.length ≤ pre.length * 2 → ∀ Q : Ex × St → Prop, (∀ st' : St, st'.h = st.h → st'.s 3 = (acc.app (rawsC 5 rest)).av 32 2 → Q (.exit 0, st')) → LoopR fns lc74_0 st Q
  | [], pre, L, acc, st, h1, hL, h2, h3, h4, hl, hr, hc, Q, hA => by
    refine loopω_run fns ?_
    simp [h2, h3]
    refine hA _ ?_ ?_ <;> simp [h4, RS.app_nil, rawsC]
  | x :: rest, pre, L, acc, st, h1, hL, h2, h3, h4, hl, hr, hc, Q, hA => by
    refine loopω_run fns ?_
    have hd : (pre.length : Int) < pre.length + (rest.length + 1) := by omega
    have hw : IntKind.i64.wrap ((pre.length : Int) + 1) = pre.length + 1 := wrap_i64 (by omega) (by simp at hl; omega)
    have hx := RS.fv_at2 (e := 102) (b := L) (k := pre.length) (m := pre.length + (rest.length + 1)) (pre := valsC 5 pre) (r := valsC 5 (x :: rest)) (by rw [hL, valsC_append]) (by simp) (by rw [hL]; simp) (by omega)
    rw [valsC_cons] at hx
    have hkr := kv_range x
    have hf := c_raw (kv x).1 hkr.1 hkr.2 (some (kv x).2) (by have := kv_len x; have := hr x List.mem_cons_self; simp only [bl]; omega)
    simp only [bl] at hf
    have hv : rawsC 5 (x :: rest) = [.int .i64 (kv x).1, bAV 5 (oB (kv x).2)] ++ rawsC 5 rest := rfl
    rw [hv] at hA
    generalize (kv x).1 = K at *
    generalize (kv x).2 = D at *
    generalize oB D = OD at *
    have ha : ∀ hp : H, apV hp 32 2 32 false (acc.av 32 2) (.slice (.own true) 32 2 [.int .i64 K, bAV 5 OD]) = some ((acc.app [.int .i64 K, bAV 5 OD]).av 32 2) := fun hp =>
      RS.apV (by simp only [List.length_cons, List.length_nil, tooLong]; simp at hl; omega) (by simp only [List.length_cons, List.length_nil, tooLong]; simp at hl; omega)
    simp [h1, h2, h3, h4, hd, hx, ha, hw, hf]
    refine l_raws rest (pre ++ [x]) L (acc.app [.int .i64 K, bAV 5 OD]) _ ?_ ?_ ?_ ?_ ?_ ?_ (fun e he => hr e (List.mem_cons_of_mem _ he)) ?_ Q (fun st' k1 k2 => hA st' ?_ ?_)
    · simp [h1]
    · rw [hL]; simp
    · simp [h2]
    · simp
    · simp
    · simpa using hl
    · rw [RS.l_app]; simp; omega
    · rw [k1]
    · rw [k2, RS.app_app]

theorem dR_len (l : List UInt8) : (dR l).1.length ≤ l.length := by
  have := (elemsR_len (l.length + 1) (num32 l - 4) (l.drop 4)).2
  rw [List.length_drop] at this
  unfold dR; omega
theorem dR_mem (l : List UInt8) (hl : l.length < 2147483648) : ∀ e ∈ (dR l).1, e.length < 2147483648 ∧ e ≠ [] := by
  intro e he
  have h1 := mem_flat_len he
  have h2 := (elemsR_len (l.length + 1) (num32 l - 4) (l.drop 4)).1
  rw [List.length_drop] at h2
  exact ⟨by unfold dR at h1; omega, elemsR_ne _ _ _ e he⟩
theorem c_arrVals (l : List UInt8) (hl : l.length < 2147483648) (hk : okL l = true) (hg : (dR l).2 = true) : ∀ hE : H, callω fns 25 [bAV 5 (some l)] hE =
    some (.tup [(RS.mk (rawsC 5 (dR l).1)).av 32 2, .bool true], hE) := by
  intro hE
  have h := c_values l hl
  have hlen := dR_len l
  have hmem := dR_mem l hl
  rw [hk, hg] at h
  simp only [if_true] at h
  generalize (dR l).1 = es at *
  have hL : (RS.mk (valsC 5 es)).l = valsC 5 es := RS.l_mk _
  have hn : aLen false ((RS.mk (valsC 5 es)).lv 102 2) = some (.int .i64 es.length) := RS.lv_len (by omega) (by rw [hL]; simp)
  have hn2 : aLen false ((RS.mk (valsC 5 es)).fv 102 2) = some (.int .i64 es.length) := RS.fv_len (by omega) (by rw [hL]; simp)
  generalize RS.mk (valsC 5 es) = L at *
  have hD : ∀ hE : H, callω fns 73 [bAV 5 (some l)] hE = some (.tup [L.av 102 2, .nilI], hE) := by
    intro hE
    refine run73 (Nat.le_of_ble_eq_true rfl) ?_
    simp [h, ex2_0, ex2_1]
  have hs : ∀ hE : H, callω fns 74 [L.fv 102 2] hE = some ((RS.mk (rawsC 5 es)).av 32 2, hE) := by
    intro hE
    refine run74 (Nat.le_of_ble_eq_true rfl) ?_
    simp [hn, hn2]
    refine l_raws es [] L RS.nil _ ?_ ?_ ?_ ?_ ?_ ?_ (fun e he => (hmem e he).1) ?_ _ (fun st' k1 k2 => ?_)
    · simp
    · simpa using hL
    · simp
    · simp
    · simp [RS.av]
    · simp; omega
    · simp [RS.l]
    · rw [RS.nil_app] at k2
      simp [k1, k2]
  refine run25 (Nat.le_of_ble_eq_true rfl) ?_
  simp [hD, hs, ex2_0, ex2_1]

theorem c_arrIdx0 {ks : Ks} (hs : ks.sz ≤ 90000) (hg : ks.good) (n : Int) (hn0 : 0 ≤ n) (hn1 : n ≤ 9223372036854775807) (hr : ks.len ≤ n.toNat) {s : Nat → Nat × Nat} {hE : H} (hS : Sens hE.Γ s) :
    callω fns 27 [bAV 5 (some ks.doc), .int .i64 n] hE = some (.tup [.agg [.int .i64 0, bAV 5 none], .int .i64 7], hE) := by
  obtain ⟨d1, d2, d3, d4, d5, d6⟩ := doc_facts hs hg
  have hw : IntKind.u64.wrap n = n := by simp [IntKind.wrap, IntKind.signed, IntKind.bits]; omega
  have hat : atR ks.doc n.toNat = (2, []) := by rw [d6, List.getElem?_eq_none (by rw [Ks.elems_length]; omega)]
  have h1 : ∀ hE : H, Sens hE.Γ s → callω fns 169 [bAV 5 (some ks.doc), .int .u64 n] hE = some (.tup [bAV 5 none, sE (s 0)], hE) := by
    intro hE hS
    have := c_indexErr ks.doc d2 n.toNat (by omega) hS
    unfold atE atV at this
    rw [hat, show ((n.toNat : Nat) : Int) = n by omega] at this
    exact this
  have h2 : ∀ hE : H, Sens hE.Γ s → callω fns 77 [bAV 5 (some ks.doc), .int .u64 n] hE = some (.tup [.agg [.int .u8 0, bAV 5 none], sE (s 0)], hE) := by
    intro hE hS
    have h1' := h1 hE.mask hS
    simp only [sE] at h1' ⊢
    refine run77 (Nat.le_of_ble_eq_true rfl) ?_
    simp [h1', ex2_0, ex2_1]
    rfl
  have h3 := h2 hE.mask hS
  have hr := c_raw 0 (by omega) (by omega) none (by simp [bl])
  have e5 : oB (bl none) = none := rfl
  rw [e5] at hr
  have hc := c_code_sen (i := 0) (by omega) (hE := hE.mask) hS
  have e7 : senC 0 = 7 := rfl
  rw [e7] at hc
  simp only [sE] at h3 hc
  refine run27 (Nat.le_of_ble_eq_true rfl) ?_
  simp [hw, h3, hr, hc, ex2_0, ex2_1]
theorem c_arrIdx1 {ks : Ks} (hs : ks.sz ≤ 90000) (hg : ks.good) (n : Int) (hn0 : 0 ≤ n) (hn1 : n ≤ 9223372036854775807) {nm : List UInt8} {v : Tr} {dd : Nat} (hat' : ks.elems[n.toNat]? = some (elemL nm v)) (hp : plainL nm = true) (hR : v.right dd = true) (hv : nm.length + v.sz ≤ 90000) {s : Nat → Nat × Nat} {hE : H} (hS : Sens hE.Γ s) :
    callω fns 27 [bAV 5 (some ks.doc), .int .i64 n] hE = some (.tup [.agg [.int .i64 v.kind, bAV 5 (oB v.val)], .int .i64 0], hE) := by
  obtain ⟨d1, d2, d3, d4, d5, d6⟩ := doc_facts hs hg
  have hw : IntKind.u64.wrap n = n := by simp [IntKind.wrap, IntKind.signed, IntKind.bits]; omega
  have hat : atR ks.doc n.toNat = (0, elemL nm v) := by rw [d6, hat']
  have hvl := Tr.val_le v
  have hvs : v.sz = v.nb + 18 * v.nodes := rfl
  have hel := elemL_length nm v
  have hkr := kind_range hR
  have h1 : ∀ hE : H, Sens hE.Γ s → callω fns 169 [bAV 5 (some ks.doc), .int .u64 n] hE = some (.tup [bAV 5 (some (elemL nm v)), .nilI], hE) := by
    intro hE hS
    have := c_indexErr ks.doc d2 n.toNat (by omega) hS
    unfold atE atV at this
    rw [hat, show ((n.toNat : Nat) : Int) = n by omega] at this
    exact this
  obtain ⟨ev, ee⟩ := eVal_elem (v := v) hp hR (by omega)
  have hev := c_ElemValue (elemL nm v) (by omega)
  rw [ev] at hev
  have hr := c_raw v.kind hkr.1 hkr.2 (some v.val) (by simp only [bl]; omega)
  simp only [bl] at hr
  generalize elemL nm v = E at *
  generalize v.kind = K at *
  have h2 : ∀ hE : H, Sens hE.Γ s → callω fns 77 [bAV 5 (some ks.doc), .int .u64 n] hE = some (.tup [.agg [.int .u8 K, bAV 5 (some v.val)], .nilI], hE) := by
    intro hE hS
    have h1' := h1 hE.mask hS
    refine run77 (Nat.le_of_ble_eq_true rfl) ?_
    simp [h1', hev, ex2_0, ex2_1]
  have h2' := h2 hE.mask hS
  have hc := c_code .nil
  refine run27 (Nat.le_of_ble_eq_true rfl) ?_
  simp [hw, h2', hr, hc, ex2_0, ex2_1]
end Go.Proofs.YtcodfehgnjplcaaGreatDoor.Abs
