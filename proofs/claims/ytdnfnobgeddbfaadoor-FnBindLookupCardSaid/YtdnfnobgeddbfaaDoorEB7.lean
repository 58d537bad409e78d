/- EB10, EB7 -/
import Derived.Test.YtdnfnobgeddbfaaDoorEB9
/- Names that lead into a right document: the walk. -/
namespace Go.Proofs.YtdnfnobgeddbfaaDoor.Abs
set_option linter.all false
open Go.Proofs
set_option linter.unusedVariables false
set_option linter.unusedSimpArgs false
set_option maxRecDepth 100000
set_option maxHeartbeats 8000000

theorem eVal_elem {nm : List UInt8} {v : Tr} {dd : Nat} (hp : plainL nm = true) (hR : v.right dd = true) (hs : v.sz ≤ 1000000000) :
    eVal (elemL nm v) = .agg [.int .u8 v.kind, bAV 5 (some v.val)] ∧ eValErr (elemL nm v) = .nilI := by
  have h1 := eParts_elem (v := v) hp
  have h2 := vGet_val v hR hs []
  rw [List.append_nil] at h2
  have h3 := byteOf_kind hR
  unfold eVal eValErr
  rw [h1]
  simp only [h3, h2, Option.isSome_some, if_true, vData, bl, Option.map_some, List.take_length, and_self]
/-- A row of texts that are read. -/
structure SR1 (b b' : RS) (a : List UInt8) (p : List (List UInt8)) : Prop where
  at0 : ∃ r, ixV 1 (b.fv 9 1) (.int .i64 0) = some (.eptr (.str a :: r))
  len : aLen false (b.fv 9 1) = some (.int .i64 (p.length + 1 : Nat))
  lenV : lenV (b.fv 9 1) = some ((p.length + 1 : Nat) : Int)
  sl : ∀ hp : H, slSl hp 1 (b.fv 9 1) (some 1) (some ((p.length + 1 : Nat) : Int)) = some (b'.fv 9 1)
def strsR (l : List (List UInt8)) : RS := .own true (l.map AV.str)
theorem SR1_of (a : List UInt8) (p : List (List UInt8)) : SR1 (strsR (a :: p)) (strsR p) a p where
  at0 := ⟨p.map AV.str, RS.fv_at' (k := 0) (pre := []) (by simp [strsR, RS.l]) rfl⟩
  len := by rw [RS.fv_len1]; simp [strsR, RS.l]
  lenV := by simp [strsR, RS.fv]
  sl := fun hp => by
    show slSl hp 1 (.slice .frz 9 1 ((a :: p).map AV.str)) (some 1) (some ((p.length + 1 : Nat) : Int)) = _
    simp only [slSl]
    rw [if_pos ⟨by omega, by omega, by simp, .inr trivial⟩]
    simp [strsR, RS.fv, List.take_of_length_le]

theorem c_Key1 {nm : List UInt8} {v : Tr} (hp : plainL nm = true) (hl : (elemL nm v).length < 2147483648) : ∀ hE : H, callω fns 77 [bAV 5 (some (elemL nm v))] hE = some (.str nm, hE) := by
  intro hE
  have h := c_KeyErr (elemL nm v) hl
  rw [eParts_elem (v := v) hp] at h
  simp only at h
  refine run77 (Nat.le_of_ble_eq_true rfl) ?_
  simp [h, ex2_0, ex2_1]
theorem look_cases (s : Nat → Nat × Nat) : ∀ (p : List (List UInt8)) (ks : Ks), p ≠ [] → (lookT p ks = none ∧ (lookE s p ks = sE (s 1) ∨ ∃ x k, lookE s p ks = xDep x k)) ∨ ∃ w, lookT p ks = some w ∧ lookE s p ks = .nilI
  | [], ks, h => absurd rfl h
  | a :: r, ks, _ => by
    simp only [lookT, lookE]
    cases ks.find a with
    | none => exact .inl ⟨rfl, .inl rfl⟩
    | some v =>
      simp only
      by_cases hr : r = []
      · rw [if_pos hr, if_pos hr]; exact .inr ⟨v, rfl, rfl⟩
      · rw [if_neg hr, if_neg hr]
        by_cases hk : v.kind = 3 ∨ v.kind = 4
        · rw [if_pos hk, if_pos hk]; exact look_cases s r v.kids hr
        · rw [if_neg hk, if_neg hk]; exact .inl ⟨rfl, .inr ⟨_, _, rfl⟩⟩
theorem l_Lookup {K : Ks} {a : List UInt8} {p : List (List UInt8)} {b b' : RS} (hb : SR1 b b' a p) (hpl : p.length ≤ 1000000) {s : Nat → Nat × Nat}
    (hrec : p ≠ [] → ∀ ks : Ks, ks.good → ks.sz ≤ 90000 → ∀ hE : H, Sens hE.Γ s → callω fns 55 [bAV 5 (some ks.doc), b'.fv 9 1] hE = some (.tup [.agg (lookV (lookT p ks)), lookE s p ks], hE)) :
    ∀ (r : Ks) (st : St), st.s 0 = bAV 5 (some K.doc) → st.s 1 = b.fv 9 1 → st.s 4 = .ptr (.loc 4) 0 → st.b 4 = some (.cells [.int .u8 0, .slice .nil 0 1 []]) → st.b 11 = none → st.b 13 = none → st.s 6 = .int .i32 (r.body.length + 1) → st.s 7 = bAV 5 (some (r.body ++ [0])) →
      r.good → r.sz ≤ 90000 → Sens st.h.Γ s → ∀ Q : Ex × St → Prop,
      (r.find a = none → ∀ st' : St, st'.h = st.h → st'.s 4 = .ptr (.loc 4) 0 → st'.b 4 = some (.cells [.int .u8 0, .slice .nil 0 1 []]) → Q (.exit 0, st')) →
      (∀ v, r.find a = some v → ∀ st' : St, st'.h = st.h → st'.s 4 = .ptr (.loc 4) 0 → st'.b 4 = some (.cells (lookV (if p = [] then some v else if v.kind = 3 ∨ v.kind = 4 then lookT p v.kids else none))) →
        st'.s 5 = (if p = [] then .nilI else if v.kind = 3 ∨ v.kind = 4 then lookE s p v.kids else xDep a v.kind) → Q (.ret, st')) → LoopR fns lc55_0 st Q
  | .nil, st, h0, h1, h4, hb4, hb11, hb13, h6, h7, hg, hsz, hS, Q, hA, hB => by
    refine loopω_run fns ?_
    simp [Ks.body, h6]
    refine hA rfl _ ?_ ?_ ?_ <;> simp [h4, hb4]
  | .cons nm v r, st, h0, h1, h4, hb4, hb11, hb13, h6, h7, hg, hsz, hS, Q, hA, hB => by
    refine loopω_run fns ?_
    obtain ⟨hp, ⟨dd, hR⟩, hG⟩ := hg
    rw [Ks.sz_cons] at hsz
    have hvl := Tr.val_le v
    have hvs : v.sz = v.nb + 18 * v.nodes := rfl
    have hel := elemL_length nm v
    have hbl := Ks.body_le r
    have hrs : r.sz = r.nb + 18 * r.nodes := rfl
    have hB0 : (Ks.cons nm v r).body = elemL nm v ++ r.body := by simp [Ks.body, elemL, hdL]
    rw [hB0] at h6 h7
    rw [List.append_assoc] at h7
    have hre := c_ReadElement (elemL nm v ++ (r.body ++ [0])) (by simp; omega)
    have he : eRes (elemL nm v ++ (r.body ++ [0])) = .tup [bAV 5 (some (elemL nm v)), bAV 5 (some (r.body ++ [0])), .bool true] := by
      simp only [eRes, eGet_elem hp hR (by omega) (r.body ++ [0]), List.take_left, List.drop_left]
    rw [he] at hre
    have hkb := c_KeyBytes (elemL nm v) (by omega)
    rw [eParts_elem (v := v) hp] at hkb
    simp only at hkb
    have hg1 : (1 : Int) < ((elemL nm v ++ r.body).length : Int) + 1 := by simp; omega
    have w0 : IntKind.i32.wrap ((elemL nm v).length : Int) = (elemL nm v).length := i32_small (by omega) (by omega)
    have w1 : IntKind.i32.wrap ((((elemL nm v ++ r.body).length : Int) + 1) - (elemL nm v).length) = r.body.length + 1 := by
      rw [i32_small] <;> simp <;> omega
    obtain ⟨rst, b1⟩ := hb.at0
    have b2 := hb.len
    have b3 := hb.lenV
    have b4 := hb.sl
    generalize ((elemL nm v ++ r.body).length : Int) + 1 = N at *
    by_cases hnm : nm = a
    case neg =>
      have hf : (Ks.cons nm v r).find a = r.find a := by simp [Ks.find, hnm]
      rw [hf] at hA hB
      have hnm' : (nm == a) = false := by simpa using hnm
      generalize elemL nm v = E at *
      simp [h0, h1, h4, hb4, h6, h7, hg1, hre, hkb, w0, w1, b1, hnm', ex3_0, ex3_1, ex3_2, bl]
      refine l_Lookup (K := K) hb hpl hrec r _ ?_ ?_ ?_ ?_ ?_ ?_ ?_ ?_ hG (by omega) ?_ Q (fun k st' q1 q2 q3 => hA k st' ?_ q2 q3) (fun v k st' q1 q2 q3 q4 => hB v k st' ?_ q2 q3 q4)
      · simp [h0]
      · simp [h1]
      · simp [h4]
      · simp [hb4]
      · simp [hb11]
      · simp [hb13]
      · simp
      · simp
      · exact hS
      · rw [q1]
      · rw [q1]
    subst hnm
    have hf : (Ks.cons nm v r).find nm = some v := by simp [Ks.find]
    have hB' := hB v hf
    obtain ⟨ev, ee⟩ := eVal_elem (v := v) hp hR (by omega)
    by_cases hpe : p = []
    · subst hpe
      have hv := c_ValueErr (elemL nm v) (by omega)
      rw [ev, ee] at hv
      simp only [List.length_nil, Nat.zero_add] at b2
      simp only [if_true] at hB'
      generalize elemL nm v = E at *
      simp [h0, h1, h4, hb4, h6, h7, hg1, hre, hkb, w0, w1, b1, b2, hv, ex3_0, ex3_1, ex3_2, ex2_0, ex2_1, bl]
      refine hB' _ ?_ ?_ ?_ ?_ <;> simp [lookV, h4]
    · simp only [if_neg hpe] at hB'
      have hp1 : (1 : Int) < ((p.length + 1 : Nat) : Int) := by have : p.length ≠ 0 := fun e => hpe (List.length_eq_zero_iff.1 e); omega
      have hev := c_ElemValue (elemL nm v) (by omega)
      rw [ev] at hev
      have hix0 : ixV 1 (bAV 5 (some (elemL nm v))) (.int .i64 0) = some (.eptr (.int .u8 v.kind :: byteCells (nm ++ 0 :: v.val))) := by
        have e : elemL nm v = byteOf v.kind :: (nm ++ 0 :: v.val) := by simp [elemL, hdL]
        rw [e, ix_head, byteOf_kind hR]
      generalize (p.length + 1 : Nat) = PL at *
      by_cases h3 : v.kind = 3
      · have hk : v.kind = 3 ∨ v.kind = 4 := .inl h3
        rw [if_pos hk, if_pos hk] at hB'
        have hs2 := Tr.kids_sz v
        have hr2 := hrec hpe v.kids (Tr.kids_good hk hR) (by omega)
        have hd2 := c_ValDoc v.kids (by omega)
        rw [Tr.val_kids hk] at hev
        have hcs : (lookT p v.kids = none ∧ (lookE s p v.kids = sE (s 1) ∨ ∃ x k, lookE s p v.kids = xDep x k)) ∨ ∃ w, lookT p v.kids = some w ∧ lookE s p v.kids = .nilI := look_cases s p v.kids hpe
        generalize elemL nm v = E at *
        generalize v.kids.doc = D at *
        rw [h3] at hev hix0
        generalize lookT p v.kids = LT at *
        generalize lookE s p v.kids = LE at *
        have hr3 := hr2 st.h.mask hS
        rcases hcs with ⟨rfl, hle⟩ | ⟨w, rfl, rfl⟩
        · rcases hle with rfl | ⟨x, k, rfl⟩ <;> simp only [sE, xDep] at hr3 hB' <;>
            simp [h0, h1, h4, hb4, hb11, hb13, h6, h7, hg1, hre, hkb, w0, w1, b1, b2, b3, b4, hp1, hix0, hev, hd2, hr3, lookV, ex3_0, ex3_1, ex3_2, ex2_0, ex2_1, bl] <;>
            refine hB' _ ?_ ?_ ?_ ?_ <;> simp [lookV, h4, hb4]
        · simp [h0, h1, h4, hb4, hb11, hb13, h6, h7, hg1, hre, hkb, w0, w1, b1, b2, b3, b4, hp1, hix0, hev, hd2, hr3, lookV, ex3_0, ex3_1, ex3_2, ex2_0, ex2_1, bl]
          refine hB' _ ?_ ?_ ?_ ?_ <;> simp [lookV, h4, hb4]
      by_cases h4k : v.kind = 4
      · have hk : v.kind = 3 ∨ v.kind = 4 := .inr h4k
        rw [if_pos hk, if_pos hk] at hB'
        have hs2 := Tr.kids_sz v
        have hr2 := hrec hpe v.kids (Tr.kids_good hk hR) (by omega)
        have hd2 := c_ValArr v.kids (by omega)
        rw [Tr.val_kids hk] at hev
        have hcs : (lookT p v.kids = none ∧ (lookE s p v.kids = sE (s 1) ∨ ∃ x k, lookE s p v.kids = xDep x k)) ∨ ∃ w, lookT p v.kids = some w ∧ lookE s p v.kids = .nilI := look_cases s p v.kids hpe
        generalize elemL nm v = E at *
        generalize v.kids.doc = D at *
        rw [h4k] at hev hix0
        generalize lookT p v.kids = LT at *
        generalize lookE s p v.kids = LE at *
        have hr3 := hr2 st.h.mask hS
        rcases hcs with ⟨rfl, hle⟩ | ⟨w, rfl, rfl⟩
        · rcases hle with rfl | ⟨x, k, rfl⟩ <;> simp only [sE, xDep] at hr3 hB' <;>
            simp [h0, h1, h4, hb4, hb11, hb13, h6, h7, hg1, hre, hkb, w0, w1, b1, b2, b3, b4, hp1, hix0, hev, hd2, hr3, lookV, ex3_0, ex3_1, ex3_2, ex2_0, ex2_1, bl] <;>
            refine hB' _ ?_ ?_ ?_ ?_ <;> simp [lookV, h4, hb4]
        · simp [h0, h1, h4, hb4, hb11, hb13, h6, h7, hg1, hre, hkb, w0, w1, b1, b2, b3, b4, hp1, hix0, hev, hd2, hr3, lookV, ex3_0, ex3_1, ex3_2, ex2_0, ex2_1, bl]
          refine hB' _ ?_ ?_ ?_ ?_ <;> simp [lookV, h4, hb4]
      · have hk : ¬ (v.kind = 3 ∨ v.kind = 4) := by omega
        rw [if_neg hk, if_neg hk] at hB'
        have hkey := c_Key1 hp (v := v) (by omega)
        generalize elemL nm v = E at *
        generalize v.kind = VK at *
        simp only [xDep] at hB'
        simp [h0, h1, h4, hb4, hb11, hb13, h6, h7, hg1, hre, hkb, w0, w1, b1, b2, b3, b4, hp1, hix0, hev, hkey, h3, h4k, lookV, ex3_0, ex3_1, ex3_2, ex2_0, ex2_1, bl, mkI]
        refine hB' _ ?_ ?_ ?_ ?_ <;> simp [lookV, h4, hb4]
end Go.Proofs.YtdnfnobgeddbfaaDoor.Abs

/- The upper layer and the thin one, over a document of any bytes: values, the element with a number. -/
namespace Go.Proofs.YtdnfnobgeddbfaaDoor.Abs
set_option linter.all false
open Go.Proofs
set_option linter.unusedVariables false
set_option linter.unusedSimpArgs false
set_option maxRecDepth 100000
set_option maxHeartbeats 8000000

theorem c_fromCore (k : Int) (o : Option (List UInt8)) : ∀ hE : H, callω fns 56 [.agg [.int .u8 k, bAV 5 o]] hE = some (.agg [.int .u8 k, bAV 5 o], hE) := by
  intro hE
  refine run56 (Nat.le_of_ble_eq_true rfl) ?_
  simp
theorem c_some1 (k : Int) (h0 : 0 ≤ k) (h1 : k < 256) (o : Option (List UInt8)) (hl : (bl o).length < 2147483648) : ∀ hE : H, callω fns 37 [.agg [.int .u8 k, bAV 5 o]] hE = some (.agg [.int .i64 k, bAV 5 (oB (bl o))], hE) := by
  intro hE
  have w : IntKind.i64.wrap k = k := wrap_i64 (by omega) (by omega)
  have ho := c_own o hl
  refine run37 (Nat.le_of_ble_eq_true rfl) ?_
  simp [w, ho, oB]
theorem RS.fv_at2 {e : Nat} {b : RS} {k m : Nat} {pre r : List AV} (h : b.l = pre ++ r) (hp : pre.length = k * 2) (hm : b.l.length = m * 2) (hk : k < m) : ixV 2 (b.fv e 2) (.int .i64 (k : Int)) = some (.eptr r) := by
  rw [RS.fv_ix (by omega) hm hk, h, ← hp, List.drop_left]
theorem l_RawValues {v5 : AV} (h5k : ∀ t, v5.kill t = v5) : ∀ (rest pre : List (List UInt8)) (L acc : RS) (st : St), st.s 5 = v5 → st.s 17 = L.fv 108 2 → L.l = valsC 5 (pre ++ rest) → st.s 18 = .int .i64 (pre ++ rest).length → st.s 19 = .int .i64 pre.length → st.s 6 = acc.av 71 2 →
    (pre ++ rest).length < 2147483648 → acc.l.length ≤ pre.length * 2 → ∀ Q : Ex × St → Prop, (∀ st' : St, st'.h = st.h → st'.s 5 = v5 → st'.s 6 = (acc.app (valsC 5 rest)).av 71 2 → Q (.exit 0, st')) → LoopR fns lc41_0 st Q
  | [], pre, L, acc, st, h5, h1, hL, h2, h3, h4, hl, hc, Q, hA => by
    refine loopω_run fns ?_
    simp [h2, h3]
    refine hA _ ?_ ?_ ?_ <;> simp [h4, h5, RS.app_nil, valsC]
  | x :: rest, pre, L, acc, st, h5, h1, hL, h2, h3, h4, hl, hc, Q, hA => by
    refine loopω_run fns ?_
    have hd : (pre.length : Int) < pre.length + (rest.length + 1) := by omega
    have hw : IntKind.i64.wrap ((pre.length : Int) + 1) = pre.length + 1 := wrap_i64 (by omega) (by simp at hl; omega)
    have hx := RS.fv_at2 (e := 108) (b := L) (k := pre.length) (m := pre.length + (rest.length + 1)) (pre := valsC 5 pre) (r := valsC 5 (x :: rest)) (by rw [hL, valsC_append]) (by simp) (by rw [hL]; simp) (by omega)
    rw [valsC_cons] at hx
    have hf := c_fromCore (kv x).1 (some (kv x).2)
    have hv : valsC 5 (x :: rest) = [.int .u8 (kv x).1, bAV 5 (some (kv x).2)] ++ valsC 5 rest := rfl
    rw [hv] at hA
    generalize (kv x).1 = K at *
    generalize (kv x).2 = D at *
    have ha : ∀ hp : H, apV hp 71 2 32 false (acc.av 71 2) (.slice (.own true) 71 2 [.int .u8 K, bAV 5 (some D)]) = some ((acc.app [.int .u8 K, bAV 5 (some D)]).av 71 2) := fun hp =>
      RS.apV (by simp only [List.length_cons, List.length_nil, tooLong]; simp at hl; omega) (by simp only [List.length_cons, List.length_nil, tooLong]; simp at hl; omega)
    simp [h1, h2, h3, h4, hd, hx, ha, hw, hf]
    refine l_RawValues h5k rest (pre ++ [x]) L (acc.app [.int .u8 K, bAV 5 (some D)]) _ ?_ ?_ ?_ ?_ ?_ ?_ ?_ ?_ Q (fun st' k1 k0 k2 => hA st' ?_ ?_ ?_)
    · simp [h5, h5k]
    · simp [h1]
    · rw [hL]; simp
    · simp [h2]
    · simp
    · simp
    · simpa using hl
    · rw [RS.l_app]; simp; omega
    · rw [k1]
    · exact k0
    · rw [k2, RS.app_app]
theorem l_somes : ∀ (rest pre : List (List UInt8)) (L acc : RS) (st : St), st.s 6 = L.fv 71 2 → L.l = valsC 5 (pre ++ rest) → st.s 7 = .int .i64 (pre ++ rest).length → st.s 8 = .int .i64 pre.length → st.s 3 = acc.av 29 2 →
    (pre ++ rest).length < 2147483648 → (∀ e ∈ rest, e.length < 2147483648) → acc.l.length ≤ pre.length * 2 → ∀ Q : Ex × St → Prop, (∀ st' : St, st'.h = st.h → st'.s 3 = (acc.app (rawsC 5 rest)).av 29 2 → Q (.exit 0, st')) → LoopR fns lc42_0 st Q
  | [], pre, L, acc, st, h1, hL, h2, h3, h4, hl, hr, hc, Q, hA => by
    refine loopω_run fns ?_
    simp [h2, h3]
    refine hA _ ?_ ?_ <;> simp [h4, RS.app_nil, rawsC]
  | x :: rest, pre, L, acc, st, h1, hL, h2, h3, h4, hl, hr, hc, Q, hA => by
    refine loopω_run fns ?_
    have hd : (pre.length : Int) < pre.length + (rest.length + 1) := by omega
    have hw : IntKind.i64.wrap ((pre.length : Int) + 1) = pre.length + 1 := wrap_i64 (by omega) (by simp at hl; omega)
    have hx := RS.fv_at2 (e := 71) (b := L) (k := pre.length) (m := pre.length + (rest.length + 1)) (pre := valsC 5 pre) (r := valsC 5 (x :: rest)) (by rw [hL, valsC_append]) (by simp) (by rw [hL]; simp) (by omega)
    rw [valsC_cons] at hx
    have hkr := kv_range x
    have hf := c_some1 (kv x).1 hkr.1 hkr.2 (some (kv x).2) (by have := kv_len x; have := hr x List.mem_cons_self; simp only [bl]; omega)
    simp only [bl] at hf
    have hv : rawsC 5 (x :: rest) = [.int .i64 (kv x).1, bAV 5 (oB (kv x).2)] ++ rawsC 5 rest := rfl
    rw [hv] at hA
    generalize (kv x).1 = K at *
    generalize (kv x).2 = D at *
    generalize oB D = OD at *
    have ha : ∀ hp : H, apV hp 29 2 32 false (acc.av 29 2) (.slice (.own true) 29 2 [.int .i64 K, bAV 5 OD]) = some ((acc.app [.int .i64 K, bAV 5 OD]).av 29 2) := fun hp =>
      RS.apV (by simp only [List.length_cons, List.length_nil, tooLong]; simp at hl; omega) (by simp only [List.length_cons, List.length_nil, tooLong]; simp at hl; omega)
    simp [h1, h2, h3, h4, hd, hx, ha, hw, hf]
    refine l_somes rest (pre ++ [x]) L (acc.app [.int .i64 K, bAV 5 OD]) _ ?_ ?_ ?_ ?_ ?_ ?_ (fun e he => hr e (List.mem_cons_of_mem _ he)) ?_ Q (fun st' k1 k2 => hA st' ?_ ?_)
    · simp [h1]
    · rw [hL]; simp
    · simp [h2]
    · simp
    · simp
    · simpa using hl
    · rw [RS.l_app]; simp; omega
    · rw [k1]
    · rw [k2, RS.app_app]
theorem RS.mk_cases (l : List AV) : (l = [] ∧ RS.mk l = RS.nil) ∨ (l ≠ [] ∧ RS.mk l = RS.own true l) := by
  cases l with
  | nil => exact .inl ⟨rfl, rfl⟩
  | cons a r => exact .inr ⟨by simp, rfl⟩
/-- What is told of a document's values, whatever its bytes. -/
def valsOf (l : List UInt8) : List (List UInt8) := if okL l then (dR l).1 else []
def valsGood (l : List UInt8) : Bool := okL l && (dR l).2
theorem c_RawVals (l : List UInt8) (hl : l.length < 2147483648) : ∃ v, (v = .nilI ∨ ∃ a b, v = xFew a b) ∧ (v = .nilI ↔ valsGood l = true) ∧ ∀ hE : H, callω fns 41 [bAV 5 (some l)] hE =
    some (.tup [(RS.own true (valsC 5 (valsOf l))).av 71 2, v], hE) := by
  have h := c_values l hl
  have hlen : (dR l).1.length ≤ l.length := by
    have := (elemsR_len (l.length + 1) (num32 l - 4) (l.drop 4)).2
    rw [List.length_drop] at this
    unfold dR; omega
  have hv : ∃ v, (v = .nilI ∨ ∃ a b, v = xFew a b) ∧ (v = .nilI ↔ valsGood l = true) ∧ ∀ hE : H, callω fns 78 [bAV 5 (some l)] hE = some (.tup [(RS.mk (valsC 5 (valsOf l))).av 108 2, v], hE) := by
    unfold valsOf valsGood
    cases hk : okL l with
    | false =>
      rw [hk] at h
      exact ⟨xFew (some l) (rest4 (some l)), .inr ⟨_, _, rfl⟩, ⟨fun e => (by cases e), fun e => (by cases e)⟩, fun hE => h hE⟩
    | true =>
      rw [hk] at h
      cases hg : (dR l).2 with
      | false =>
        rw [hg] at h
        exact ⟨xFew (dE (fun _ => none) l).1 (dE (fun _ => none) l).2, .inr ⟨_, _, rfl⟩, ⟨fun e => (by cases e), fun e => (by cases e)⟩, fun hE => h hE⟩
      | true =>
        rw [hg] at h
        exact ⟨.nilI, .inl rfl, ⟨fun _ => rfl, fun _ => rfl⟩, fun hE => h hE⟩
  have hvl : (valsOf l).length ≤ l.length := by unfold valsOf; split; { exact hlen }; { simp }
  generalize valsOf l = es at *
  obtain ⟨v, v1, v2, hc⟩ := hv
  refine ⟨v, v1, v2, fun hE => ?_⟩
  have hd : ∀ hE : H, callω fns 58 [bAV 5 (some l)] hE = some (.tup [(RS.mk (valsC 5 es)).av 108 2, v], hE) := by
    intro hE
    refine run58 (Nat.le_of_ble_eq_true rfl) ?_
    rcases v1 with rfl | ⟨a, b, rfl⟩ <;> (try simp only [xFew] at hc) <;> simp [hc, ex2_0, ex2_1, xFew]
  refine run41 (Nat.le_of_ble_eq_true rfl) ?_
  have hL : (RS.mk (valsC 5 es)).l = valsC 5 es := RS.l_mk _
  have hn : aLen false ((RS.mk (valsC 5 es)).lv 108 2) = some (.int .i64 es.length) := RS.lv_len (by omega) (by rw [hL]; simp)
  have hn2 : aLen false ((RS.mk (valsC 5 es)).fv 108 2) = some (.int .i64 es.length) := RS.fv_len (by omega) (by rw [hL]; simp)
  generalize RS.mk (valsC 5 es) = L at *
  have hmk : ∀ st : St, mkV false 71 2 32 [.int .u8 0, .slice .nil 0 1 []] (.int .i64 0) (.int .i64 es.length) st = some ((RS.own true []).av 71 2, st) := fun st => by
    simp only [mkV, mkN]
    rw [if_pos ⟨trivial, trivial, by omega, by omega, by simp only [tooLong]; omega, by simp only [tooLong]; omega⟩]
    simp [RS.av, repCells]
  have hvk : (∀ t, v.kill t = v) ∧ gvV v = v ∧ hdV v = v ∧ lfV v = v ∧ v.cls .left = v ∧ (∀ m, cpV m v = v) ∧ (∀ m, cpS m v = v) ∧ v.plain = true ∧ v.cells = [v] ∧ v.several = false ∧ ∀ st n, takeU v st n = (v, st.set n v) := by
    rcases v1 with rfl | ⟨a, b, rfl⟩
    · exact ⟨fun _ => rfl, rfl, rfl, rfl, rfl, fun m => by cases m <;> rfl, fun m => by cases m <;> rfl, rfl, rfl, rfl, fun _ _ => rfl⟩
    · exact ⟨fun _ => rfl, rfl, rfl, rfl, rfl, fun m => by cases m <;> rfl, fun m => by cases m <;> rfl, rfl, rfl, rfl, fun _ _ => rfl⟩
  obtain ⟨q1, q2, q3, q4, q5, q6, q7, q8, q9, q10, q11⟩ := hvk
  simp [hd, ex2_0, ex2_1, hn, hn2, hmk, q1, q2, q3, q4, q5, q6, q7, q8, q9, q10, q11]
  refine l_RawValues q1 es [] L (RS.own true []) _ ?_ ?_ ?_ ?_ ?_ ?_ ?_ ?_ _ (fun st' k1 k0 k2 => ?_)
  · simp
  · simp
  · simpa using hL
  · simp
  · simp
  · simp
  · simp; omega
  · simp [RS.l]
  · rw [RS.own_app, List.nil_append] at k2
    simp [k1, k2, k0, q1, q2, q3, q4, q5, q6, q7, q8, q9, q10, q11]
theorem valsOf_mem (l : List UInt8) (hl : l.length < 2147483648) : ∀ e ∈ valsOf l, e.length < 2147483648 ∧ e ≠ [] := by
  intro e he
  unfold valsOf at he
  split at he
  · have h1 := mem_flat_len he
    have h2 := (elemsR_len (l.length + 1) (num32 l - 4) (l.drop 4)).1
    rw [List.length_drop] at h2
    exact ⟨by unfold dR at h1; omega, elemsR_ne _ _ _ e he⟩
  · cases he
theorem c_impVals (l : List UInt8) (hl : l.length < 2147483648) : ∀ hE : H, callω fns 18 [bAV 5 (some l)] hE =
    some (.tup [(RS.mk (rawsC 5 (valsOf l))).av 29 2, .bool (valsGood l)], hE) := by
  intro hE
  obtain ⟨v, v1, v2, h⟩ := c_RawVals l hl
  have hmem := valsOf_mem l hl
  have hvl : (valsOf l).length ≤ l.length := by
    have := (elemsR_len (l.length + 1) (num32 l - 4) (l.drop 4)).2
    rw [List.length_drop] at this
    unfold valsOf dR; split; { omega }; { simp }
  generalize valsOf l = es at *
  have hL : (RS.own true (valsC 5 es)).l = valsC 5 es := rfl
  have hn : aLen false ((RS.own true (valsC 5 es)).lv 71 2) = some (.int .i64 es.length) := RS.lv_len (by omega) (by rw [hL]; simp)
  have hn2 : aLen false ((RS.own true (valsC 5 es)).fv 71 2) = some (.int .i64 es.length) := RS.fv_len (by omega) (by rw [hL]; simp)
  generalize RS.own true (valsC 5 es) = L at *
  have hs : ∀ hE : H, callω fns 42 [L.fv 71 2] hE = some ((RS.mk (rawsC 5 es)).av 29 2, hE) := by
    intro hE
    refine run42 (Nat.le_of_ble_eq_true rfl) ?_
    simp [hn, hn2]
    refine l_somes es [] L RS.nil _ ?_ ?_ ?_ ?_ ?_ ?_ (fun e he => (hmem e he).1) ?_ _ (fun st' k1 k2 => ?_)
    · simp
    · simpa using hL
    · simp
    · simp
    · simp [RS.av]
    · simp; omega
    · simp [RS.l]
    · rw [RS.nil_app] at k2
      simp [k1, k2]
  refine run18 (Nat.le_of_ble_eq_true rfl) ?_
  have hg : valsGood l = true ∨ valsGood l = false := by cases valsGood l <;> simp
  rcases v1 with rfl | ⟨a, b, rfl⟩
  · rw [v2.1 rfl]
    simp [h, hs, ex2_0, ex2_1]
  · have : valsGood l = false := by
      rcases hg with hg | hg
      · exact absurd (v2.2 hg) (by intro e; cases e)
      · exact hg
    rw [this]
    simp only [xFew] at h
    simp [h, hs, ex2_0, ex2_1]
end Go.Proofs.YtdnfnobgeddbfaaDoor.Abs
