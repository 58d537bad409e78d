/- What the law's function FnDocIterate computes. -/
import Derived.Test.YtcodfehgnjplcaaGreatDoorEIter3
import Derived.Test.YtcodfehgnjplcaaGreatDoorEDocFine
namespace Go.Proofs.YtcodfehgnjplcaaGreatDoor.Abs
set_option linter.all false
open Go.Proofs
set_option linter.unusedVariables false
set_option linter.unusedSimpArgs false
set_option maxRecDepth 100000
set_option maxHeartbeats 8000000

theorem RS.fv_atN {e n : Nat} {b : RS} {k m : Nat} {pre r : List AV} (hn : 0 < n) (h : b.l = pre ++ r) (hp : pre.length = k * n) (hm : b.l.length = m * n) (hk : k < m) : ixV n (b.fv e n) (.int .i64 (k : Int)) = some (.eptr r) := by
  rw [RS.fv_ix hn hm hk, h, List.drop_left' hp]
def dosL (l : List UInt8) : List Int := l.map fun c => (c.toNat : Int).tmod 5
theorem dosL_lt (l : List UInt8) : ∀ o ∈ dosL l, 0 ≤ o ∧ o < 5 := by
  intro o ho
  obtain ⟨c, _, rfl⟩ := List.mem_map.1 ho
  rw [Int.tmod_eq_emod_of_nonneg (by omega)]; omega
theorem l_dos {o : Option (List UInt8)} (hl : (bl o).length ≤ 100) : ∀ (rest pre : List UInt8) (acc : RS) (st : St), bl o = pre ++ rest → st.s 1 = bAV 5 o → st.s 7 = .int .i64 pre.length → st.s 6 = acc.av 3 1 → acc.l.length ≤ pre.length →
    ∀ Q : Ex × St → Prop, (∀ st' : St, st'.h = st.h → st'.b = st.b → st'.s 0 = st.s 0 → st'.s 1 = st.s 1 → st'.s 5 = st.s 5 → st'.s 6 = (acc.app ((dosL rest).map (AV.int .i64))).av 3 1 → Q (.exit 0, st')) → LoopR fns lc8_3 st Q
  | [], pre, acc, st, hp, h1, h7, h6, ha, Q, hA => by
    refine loopω_run fns ?_
    have hlen : (bl o).length = pre.length := by rw [hp]; simp
    simp [h1, h7, hlen]
    refine hA _ ?_ ?_ ?_ ?_ ?_ ?_ <;> simp [h1, h6, dosL, RS.app_nil]
  | c :: rest, pre, acc, st, hp, h1, h7, h6, ha, Q, hA => by
    refine loopω_run fns ?_
    have hlen : (bl o).length = pre.length + (rest.length + 1) := by rw [hp]; simp
    have hlt : (pre.length : Int) < pre.length + (rest.length + 1) := by omega
    have hw : IntKind.i64.wrap ((pre.length : Int) + 1) = pre.length + 1 := wrap_i64 (by omega) (by omega)
    obtain ⟨l, rfl⟩ : ∃ l, o = some l := by cases o with | none => simp [bl] at hlen | some l => exact ⟨l, rfl⟩
    simp only [bl] at hp hlen hl
    have hix : ixV 1 (bAV 5 (some l)) (.int .i64 (pre.length : Int)) = some (.eptr (.int .u8 (c.toNat : Int) :: byteCells rest)) := by
      have hk : pre.length < l.length := by omega
      have := bAV_at (e := 5) hk
      have e1 : l[pre.length] = c := by simp [hp]
      have e2 : l.drop (pre.length + 1) = rest := by rw [hp, ← List.drop_drop]; simp
      rw [e1, e2] at this
      exact this
    have ht := c.toNat_lt
    have hwc : IntKind.i64.wrap (c.toNat : Int) = c.toNat := wrap_i64 (by omega) (by omega)
    have hap : ∀ hp : H, apV hp 3 1 8 false (acc.av 3 1) (.slice (.own true) 3 1 [.int .i64 ((c.toNat : Int).tmod 5)]) = some ((acc.app [.int .i64 ((c.toNat : Int).tmod 5)]).av 3 1) := fun hp =>
      RS.apV (by simp only [List.length_singleton, Nat.div_one, tooLong]; omega) (by simp only [List.length_singleton, tooLong]; omega)
    simp [h1, h7, h6, bl, hlen, hlt, hix, hwc, hap, hw]
    refine l_dos (o := some l) hl rest (pre ++ [c]) (acc.app [.int .i64 ((c.toNat : Int).tmod 5)]) _ ?_ ?_ ?_ ?_ ?_ Q (fun st' k1 kb k2 k3 k4 k5 => hA st' ?_ ?_ ?_ ?_ ?_ ?_)
    · simp [bl, hp]
    · simp [h1]
    · simp
    · simp
    · rw [RS.l_app]; simp; omega
    · rw [k1]
    · rw [kb]
    · rw [k2]; simp
    · rw [k3]; simp [h1]
    · rw [k4]; simp
    · rw [k5, RS.app_app]; rfl
theorem l_docs {b : RS} {vs : List Tr} (hb : b.l = vFl vs) (hvs : vs.length ≤ 2147483647) : ∀ (rest pre : List Tr) (st : St), vs = pre ++ rest → st.s 0 = b.fv 44 8 → st.s 9 = .int .i64 pre.length → st.s 8 = .bool (docsV pre) →
    ∀ Q : Ex × St → Prop, (∀ st' : St, st'.h = st.h → st'.b = st.b → st'.s 0 = st.s 0 → st'.s 1 = st.s 1 → st'.s 5 = st.s 5 → st'.s 6 = st.s 6 → st'.s 8 = .bool (docsV vs) → Q (.exit 2, st')) → LoopR fns lc8_2 st Q
  | [], pre, st, hv, h0, h9, h8, Q, hA => by
    refine loopω_run fns ?_
    have hn : aLen false (b.fv 44 8) = some (.int .i64 pre.length) := RS.fv_len (by omega) (by rw [hb, vFl_length, hv]; simp)
    simp [h0, h9, hn]
    have e : vs = pre := by rw [hv]; simp
    refine hA _ ?_ ?_ ?_ ?_ ?_ ?_ ?_ <;> simp [h0, h8, e]
  | v :: rest, pre, st, hv, h0, h9, h8, Q, hA => by
    refine loopω_run fns ?_
    have hlenV : vs.length = pre.length + (rest.length + 1) := by rw [hv]; simp
    have hlt : (pre.length : Int) < pre.length + (rest.length + 1) := by omega
    have hn : aLen false (b.fv 44 8) = some (.int .i64 ((pre.length : Int) + (rest.length + 1))) := by
      have := RS.fv_len (e := 44) (sz := 8) (b := b) (n := vs.length) (by omega) (by rw [hb, vFl_length]); rw [hlenV] at this; simpa using this
    have hx := RS.fv_at8 (e := 44) (b := b) (k := pre.length) (m := vs.length) (pre := vFl pre) (r := v.cells 5 66 ++ vFl rest) (by rw [hb, hv]; simp [vFl]) (vFl_length pre) (by rw [hb, vFl_length]) (by omega)
    have hw : IntKind.i64.wrap ((pre.length : Int) + 1) = pre.length + 1 := wrap_i64 (by omega) (by omega)
    have hd : docsV (pre ++ [v]) = (docsV pre && decide (v.kind = 3)) := by simp [docsV]
    have hkey : ∀ st2 : St, st2.h = st.h → st2.b = st.b → st2.s 0 = st.s 0 → st2.s 1 = st.s 1 → st2.s 5 = st.s 5 → st2.s 6 = st.s 6 → st2.s 8 = .bool (docsV (pre ++ [v])) → st2.s 9 = .int .i64 (pre.length + 1 : Nat) → LoopR fns lc8_2 st2 Q := by
      intro st2 q1 qb q0 q2 q5 q6 q8 q9
      refine l_docs hb hvs rest (pre ++ [v]) st2 (by rw [hv]; simp) (by rw [q0, h0]) (by rw [q9]; simp) q8 Q (fun st' k1 kb k2 k3 k4 k5 k6 => hA st' (k1.trans q1) (kb.trans qb) (k2.trans q0) (k3.trans q2) (k4.trans q5) (k5.trans q6) k6)
    rw [hd] at hkey
    cases v with
    | mk k t m n bi hi bb kn ks =>
    simp only [Tr.cells, List.cons_append, List.nil_append] at hx
    simp only [Tr.kind] at hkey
    cases hdp : docsV pre with
    | true =>
      rw [hdp] at hkey h8
      simp [h0, h9, h8, hn, hlt, hx, hw, pkV]
      refine hkey _ ?_ ?_ ?_ ?_ ?_ ?_ ?_ ?_ <;> first | (simp [h0]; done) | (simp [h0]; rfl)
    | false =>
      rw [hdp] at hkey h8
      simp [h0, h9, h8, hn, hlt, hx, hw, pkV]
      refine hkey _ ?_ ?_ ?_ ?_ ?_ ?_ ?_ ?_ <;> simp [h0]
theorem l_inner {b : RS} {vs : List Tr} (hb : b.l = vFl vs) (hvs : vs.length ≤ 100000) (hwf : ∀ v ∈ vs, v.wf ∧ v.sz ≤ 90000) {L : RS} (hL : L.l = rowsO (vs.map Tr.val)) {c0 c1 c2 c3 c4 c5 c6 c7 c8 c9 c10 c11 : AV} : ∀ (rest pre : List Tr) (st : St), vs = pre ++ rest → st.s 0 = b.fv 44 8 → st.s 8 = .bool true → st.s 13 = .ptr (.loc 13) 0 →
    st.b 13 = some (.cells [c0, c1, c2, c3, c4, c5, c6, c7, c8, c9, c10, c11, L.fv 22 1]) → st.s 14 = .int .i64 pre.length → ∀ Q : Ex × St → Prop,
    (∀ st' : St, st'.h = st.h → st'.b 5 = st.b 5 → st'.s 0 = st.s 0 → st'.s 1 = st.s 1 → st'.s 5 = st.s 5 → st'.s 6 = st.s 6 → st'.s 8 = st.s 8 → st'.s 10 = st.s 10 → st'.s 11 = st.s 11 → st'.s 12 = st.s 12 → Q (.exit 7, st')) → LoopR fns lc8_0 st Q
  | [], pre, st, hv, h0, h8, h13, hb13, h14, Q, hA => by
    refine loopω_run fns ?_
    have hn : aLen false (b.fv 44 8) = some (.int .i64 pre.length) := RS.fv_len (by omega) (by rw [hb, vFl_length, hv]; simp)
    simp [h0, h8, h14, hn, pkV]
    refine hA _ ?_ ?_ ?_ ?_ ?_ ?_ ?_ ?_ ?_ ?_ <;> simp [h0, h8]
  | v :: rest, pre, st, hv, h0, h8, h13, hb13, h14, Q, hA => by
    refine loopω_run fns ?_
    have hlenV : vs.length = pre.length + (rest.length + 1) := by rw [hv]; simp
    have hlt : (pre.length : Int) < pre.length + (rest.length + 1) := by omega
    have hn : aLen false (b.fv 44 8) = some (.int .i64 ((pre.length : Int) + (rest.length + 1))) := by
      have := RS.fv_len (e := 44) (sz := 8) (b := b) (n := vs.length) (by omega) (by rw [hb, vFl_length]); rw [hlenV] at this; simpa using this
    have hx := RS.fv_at8 (e := 44) (b := b) (k := pre.length) (m := vs.length) (pre := vFl pre) (r := v.cells 5 66 ++ vFl rest) (by rw [hb, hv]; simp [vFl]) (vFl_length pre) (by rw [hb, vFl_length]) (by omega)
    have hy := RS.fv_at' (e := 22) (b := L) (k := pre.length) (pre := rowsO (pre.map Tr.val)) (r := rowsO (rest.map Tr.val)) (x := bAV 5 (oB v.val)) (by rw [hL, hv]; simp [rowsO]) (by simp)
    have hw : IntKind.i64.wrap ((pre.length : Int) + 1) = pre.length + 1 := wrap_i64 (by omega) (by omega)
    obtain ⟨w1, w2⟩ := hwf v (by rw [hv]; simp)
    have hV := c_DocValue v w1 (by omega)
    have hbo : bl (oB v.val) = v.val := bl_oB _
    have hbl : (BS.mk v.val).l = v.val := by simp
    have hkey : ∀ st2 : St, st2.h = st.h → st2.b 5 = st.b 5 → st2.s 0 = st.s 0 → st2.s 1 = st.s 1 → st2.s 5 = st.s 5 → st2.s 6 = st.s 6 → st2.s 8 = st.s 8 → st2.s 10 = st.s 10 → st2.s 11 = st.s 11 → st2.s 12 = st.s 12 → st2.s 13 = .ptr (.loc 13) 0 → st2.b 13 = st.b 13 → st2.s 14 = .int .i64 (pre.length + 1 : Nat) → LoopR fns lc8_0 st2 Q := by
      intro st2 q1 qb q0 q2 q5 q6 q8 q10 q11 q12 q13 qb13 q14
      refine l_inner hb hvs hwf hL (c0 := c0) (c1 := c1) (c2 := c2) (c3 := c3) (c4 := c4) (c5 := c5) (c6 := c6) (c7 := c7) (c8 := c8) (c9 := c9) (c10 := c10) (c11 := c11) rest (pre ++ [v]) st2 (by rw [hv]; simp) (by rw [q0, h0]) (by rw [q8, h8]) q13 (by rw [qb13, hb13]) (by rw [q14]; simp) Q
        (fun st' k1 kb k0 k2 k3 k4 k5 k6 k7 k8 => hA st' (k1.trans q1) (kb.trans qb) (k0.trans q0) (k2.trans q2) (k3.trans q5) (k4.trans q6) (k5.trans q8) (k6.trans q10) (k7.trans q11) (k8.trans q12))
    generalize oB v.val = OV at *
    generalize v.val = VV at *
    cases v with
    | mk k t m n bi hi bb kn ks =>
    simp only [Tr.cells, List.cons_append, List.nil_append] at hx hV
    simp [h0, h8, h13, hb13, h14, hn, hlt, hx, hy, hV, hbo, hbl, hw, pkV]
    refine hkey _ ?_ ?_ ?_ ?_ ?_ ?_ ?_ ?_ ?_ ?_ ?_ ?_ ?_ <;> simp [h0, h8, h13, hb13]
theorem vFl_split {vs : List Tr} {i : Nat} (h : i < vs.length) : vFl vs = vFl (vs.take i) ++ (vs[i].cells 5 66 ++ vFl (vs.drop (i + 1))) := by
  have e : vs = vs.take i ++ vs[i] :: vs.drop (i + 1) := by rw [← List.drop_eq_getElem_cons h, List.take_append_drop]
  have e2 : ∀ (a c : List Tr) (x : Tr), vFl (a ++ x :: c) = vFl a ++ (x.cells 5 66 ++ vFl c) := fun a c x => by simp [vFl]
  exact (congrArg vFl e).trans (e2 _ _ _)
theorem l_main {b : RS} {vs : List Tr} (hb : b.l = vFl vs) (hvs : vs.length ≤ 100000) (hwf : ∀ v ∈ vs, v.wf ∧ v.sz ≤ 90000) {dl : List Int} (hdl : dl.length ≤ 100) : ∀ (rest pre : List Int) (i : Nat) (P : List AV) (D R : RS) (st : St), dl = pre ++ rest → (∀ o ∈ rest, 0 ≤ o ∧ o < 5) → R.l = P ++ stepsC vs i rest → P.length = pre.length * 13 → i ≤ vs.length →
    st.s 0 = b.fv 44 8 → st.s 6 = D.av 3 1 → D.l = dl.map (AV.int .i64) → st.s 8 = .bool (docsV vs) → st.s 10 = R.av 74 13 → st.s 11 = .int .i64 i → st.s 12 = .int .i64 pre.length → ∀ Q : Ex × St → Prop,
    (∀ st' : St, st'.h = st.h → Q (.exit 4, st')) → LoopR fns lc8_1 st Q
  | [], pre, i, P, D, R, st, hd, ho, hR, hP, hi, h0, h6, hD, h8, h10, h11, h12, Q, hA => by
    refine loopω_run fns ?_
    have hn : aLen false (D.lv 3 1) = some (.int .i64 pre.length) := RS.lv_len (by omega) (by rw [hD, hd]; simp)
    have hn' : aLen false (D.av 3 1) = some (.int .i64 pre.length) := RS.av_len (by omega) (by rw [hD, hd]; simp)
    simp [h6, h12, hn, hn']
    exact hA _ (by simp)
  | o :: rest, pre, i, P, D, R, st, hd, ho, hR, hP, hi, h0, h6, hD, h8, h10, h11, h12, Q, hA => by
    refine loopω_run fns ?_
    have hlen : dl.length = pre.length + (rest.length + 1) := by rw [hd]; simp
    have hlt : (pre.length : Int) < pre.length + (rest.length + 1) := by omega
    have hn : aLen false (D.lv 3 1) = some (.int .i64 ((pre.length : Int) + (rest.length + 1))) := by
      have := RS.lv_len (e := 3) (sz := 1) (b := D) (n := dl.length) (by omega) (by rw [hD]; simp); rw [hlen] at this; simpa using this
    have hn' : aLen false (D.av 3 1) = some (.int .i64 ((pre.length : Int) + (rest.length + 1))) := by
      have := RS.av_len (e := 3) (sz := 1) (b := D) (n := dl.length) (by omega) (by rw [hD]; simp); rw [hlen] at this; simpa using this
    have hx := RS.fv_at' (e := 3) (b := D) (k := pre.length) (pre := pre.map (AV.int .i64)) (r := rest.map (AV.int .i64)) (x := .int .i64 o) (by rw [hD, hd]; simp) (by simp)
    have hRl : R.l.length = (pre.length + (rest.length + 1)) * 13 := by rw [hR, List.length_append, hP, stepsC_length]; simp; omega
    have hy := RS.fv_atN (e := 74) (n := 13) (b := R) (k := pre.length) (m := pre.length + (rest.length + 1)) (pre := P) (r := stepsC vs i (o :: rest)) (by omega) hR hP hRl (by omega)
    have hst : stepsC vs i (o :: rest) = stepC vs i o ++ stepsC vs (stepA vs i o) rest := rfl
    rw [hst] at hy
    have hw : IntKind.i64.wrap ((pre.length : Int) + 1) = pre.length + 1 := wrap_i64 (by omega) (by omega)
    have hwi : IntKind.i64.wrap ((i : Int) + 1) = i + 1 := wrap_i64 (by omega) (by omega)
    have hnv : aLen false (b.fv 44 8) = some (.int .i64 vs.length) := RS.fv_len (by omega) (by rw [hb, vFl_length])
    have hco := ho o List.mem_cons_self
    have hkey : ∀ (st2 : St), st2.h = st.h → st2.s 0 = st.s 0 → st2.s 6 = D.sh.av 3 1 → st2.s 8 = st.s 8 → st2.s 10 = R.sh.av 74 13 → st2.s 11 = .int .i64 (stepA vs i o) → st2.s 12 = .int .i64 (pre.length + 1 : Nat) → LoopR fns lc8_1 st2 Q := by
      intro st2 qh q0 q6 q8 q10 q11 q12
      refine l_main hb hvs hwf hdl rest (pre ++ [o]) (stepA vs i o) (P ++ stepC vs i o) D.sh R.sh st2 ?_ (fun o ho' => ho o (List.mem_cons_of_mem _ ho')) ?_ ?_ ?_ ?_ q6 ?_ ?_ q10 q11 ?_ Q (fun st' k => hA st' (k.trans qh))
      · rw [hd]; simp
      · rw [RS.sh_l, hR, hst, List.append_assoc]
      · rw [List.length_append, stepC_length, hP]; simp; omega
      · unfold stepA; split
        · split <;> omega
        · split <;> omega
      · rw [q0, h0]
      · rw [RS.sh_l]; exact hD
      · rw [q8, h8]
      · rw [q12]; simp
    generalize stepsC vs (stepA vs i o) rest = ST at *
    rcases (by omega : o = 0 ∨ o = 1 ∨ o = 2 ∨ o = 3 ∨ o = 4) with rfl | rfl | rfl | rfl | rfl
    · by_cases hiv : i < vs.length
      · have hsc : stepC vs i 0 = [.int .i64 0, .str [], .int .i64 vs[i].kind, .str [], .str [], .int .i64 0, .int .u64 0, .int .u64 0, bAV 5 (oB vs[i].val), .slice .nil 0 1 [], .int .i64 0, .int .i64 0, .slice .nil 0 1 []] := by
          unfold stepC stepV; rw [if_pos rfl, List.getElem?_eq_getElem hiv, if_pos hiv]; rfl
        have hsa : stepA vs i 0 = i + 1 := by simp [stepA, hiv]
        rw [hsc] at hy
        rw [hsa] at hkey
        have hxv := RS.fv_at8 (e := 44) (b := b) (k := i) (m := vs.length) (pre := vFl (vs.take i)) (r := vs[i].cells 5 66 ++ vFl (vs.drop (i + 1))) (by rw [hb]; exact vFl_split hiv) (by rw [vFl_length]; simp; omega) (by rw [hb, vFl_length]) hiv
        obtain ⟨w1, w2⟩ := hwf vs[i] (List.getElem_mem hiv)
        have hV := c_DocValue vs[i] w1 (by omega)
        have hbo : bl (oB vs[i].val) = vs[i].val := bl_oB _
        have hbl : (BS.mk vs[i].val).l = vs[i].val := by simp
        have g1 : ¬ ((vs.length : Int) ≤ i) := by omega
        simp only [List.cons_append, List.nil_append] at hy
        generalize oB vs[i].val = OV at *
        generalize vs[i].val = VV at *
        generalize vFl (vs.drop (i + 1)) = VR at *
        generalize vs[i] = v at *
        cases v with
        | mk k t m n bi hi' bb kn ks =>
        simp only [Tr.cells, Tr.kind, List.cons_append, List.nil_append] at hxv hV hy
        simp [h0, h6, h8, h10, h11, h12, hn, hn', hlt, hx, hy, hnv, g1, hxv, hV, hbo, hbl, hw, hwi]
        refine hkey _ ?_ ?_ ?_ ?_ ?_ ?_ ?_ <;> simp [h0, h6, h8, h10]
      · have hsc : stepC vs i 0 = [.int .i64 0, .str [], .int .i64 0, .str [], .str [], .int .i64 0, .int .u64 0, .int .u64 0, .slice .nil 0 1 [], .slice .nil 0 1 [], .int .i64 11, .int .i64 0, .slice .nil 0 1 []] := by
          simp [stepC, stepV, zV, List.getElem?_eq_none (Nat.le_of_not_lt hiv), hiv]
        have hsa : stepA vs i 0 = i := by simp [stepA, hiv]
        rw [hsc] at hy
        rw [hsa] at hkey
        have g1 : ((vs.length : Int) ≤ i) := by omega
        simp only [List.cons_append, List.nil_append] at hy
        simp [h0, h6, h8, h10, h11, h12, hn, hn', hlt, hx, hy, hnv, g1, hw]
        refine hkey _ ?_ ?_ ?_ ?_ ?_ ?_ ?_ <;> simp [h0, h6, h8, h10, h11]
    · have hsc : stepC vs i 1 = [.int .i64 1, .str [], .int .i64 0, .str [], .str [], .int .i64 0, .int .u64 0, .int .u64 0, .slice .nil 0 1 [], .slice .nil 0 1 [], .int .i64 0, .int .i64 0, .slice .nil 0 1 []] := by simp [stepC, zV]
      have hsa : stepA vs i 1 = 0 := by simp [stepA]
      rw [hsc] at hy
      rw [hsa] at hkey
      simp only [List.cons_append, List.nil_append] at hy
      simp [h0, h6, h8, h10, h11, h12, hn, hn', hlt, hx, hy, hw]
      refine hkey _ ?_ ?_ ?_ ?_ ?_ ?_ ?_ <;> simp [h0, h6, h8, h10]
    · have hsc : stepC vs i 2 = [.int .i64 2, .str [], .int .i64 0, .str [], .str [], .int .i64 0, .int .u64 0, .int .u64 0, .slice .nil 0 1 [], .slice .nil 0 1 [], .int .i64 0, .int .i64 vs.length, .slice .nil 0 1 []] := by simp [stepC, zV]
      have hsa : stepA vs i 2 = i := by simp [stepA]
      rw [hsc] at hy
      rw [hsa] at hkey
      simp only [List.cons_append, List.nil_append] at hy
      simp [h0, h6, h8, h10, h11, h12, hn, hn', hlt, hx, hy, hnv, hw]
      refine hkey _ ?_ ?_ ?_ ?_ ?_ ?_ ?_ <;> simp [h0, h6, h8, h10, h11]
    · have hsc : stepC vs i 3 = [.int .i64 3, .str [], .int .i64 0, .str [], .str [], .int .i64 0, .int .u64 0, .int .u64 0, .slice .nil 0 1 [], .slice .nil 0 1 [], .int .i64 0, .int .i64 (if vs.length = 0 then 1 else 0), .slice .nil 0 1 []] := by simp [stepC, zV]
      have hsa : stepA vs i 3 = i := by simp [stepA]
      rw [hsc] at hy
      rw [hsa] at hkey
      simp only [List.cons_append, List.nil_append] at hy
      by_cases hz : vs.length = 0
      · have hz' : vs = [] := List.length_eq_zero_iff.1 hz
        rw [if_pos hz] at hy
        rw [hz] at hnv
        simp [h0, h6, h8, h10, h11, h12, hn, hn', hlt, hx, hy, hnv, hw]
        refine hkey _ ?_ ?_ ?_ ?_ ?_ ?_ ?_ <;> simp [h0, h6, h8, h10, h11]
      · have hz' : ¬ ((vs.length : Int) = 0) := by omega
        have hz2 : ¬ vs = [] := fun e => hz (by rw [e]; rfl)
        rw [if_neg hz] at hy
        simp [h0, h6, h8, h10, h11, h12, hn, hn', hlt, hx, hy, hnv, hz', hz2, hw]
        refine hkey _ ?_ ?_ ?_ ?_ ?_ ?_ ?_ <;> simp [h0, h6, h8, h10, h11]
    · have hsa : stepA vs i 4 = i := by simp [stepA]
      rw [hsa] at hkey
      cases hdd : docsV vs with
      | false =>
        have hsc : stepC vs i 4 = [.int .i64 4, .str [], .int .i64 0, .str [], .str [], .int .i64 0, .int .u64 0, .int .u64 0, .slice .nil 0 1 [], .slice .nil 0 1 [], .int .i64 9, .int .i64 0, .slice .nil 0 1 []] := by simp [stepC, zV, hdd]
        rw [hsc] at hy
        rw [hdd] at h8
        simp only [List.cons_append, List.nil_append] at hy
        simp [h0, h6, h8, h10, h11, h12, hn, hn', hlt, hx, hy, hnv, hw, pkV]
        refine loopω_run fns ?_
        simp [h0, h6, h8, h10, h11, h12, hn, hn', hlt, hx, hy, hnv, hw, pkV]
        refine hkey _ ?_ ?_ ?_ ?_ ?_ ?_ ?_ <;> simp [h0, h6, h8, h10, h11]
      | true =>
        have hsc : stepC vs i 4 = [.int .i64 4, .str [], .int .i64 0, .str [], .str [], .int .i64 0, .int .u64 0, .int .u64 0, .slice .nil 0 1 [], .slice .nil 0 1 [], .int .i64 0, .int .i64 0, (RS.mk (rowsO (vs.map Tr.val))).fv 22 1] := by simp [stepC, zV, hdd]
        rw [hsc] at hy
        rw [hdd] at h8
        simp only [List.cons_append, List.nil_append] at hy
        have hLl : (RS.mk (rowsO (vs.map Tr.val))).l = rowsO (vs.map Tr.val) := RS.l_mk _
        have hnL : aLen false ((RS.mk (rowsO (vs.map Tr.val))).fv 22 1) = some (.int .i64 vs.length) := RS.fv_len (by omega) (by rw [hLl]; simp)
        have hin := l_inner hb hvs hwf hLl (c0 := .int .i64 4) (c1 := .str []) (c2 := .int .i64 0) (c3 := .str []) (c4 := .str []) (c5 := .int .i64 0) (c6 := .int .u64 0) (c7 := .int .u64 0) (c8 := .slice .nil 0 1 []) (c9 := .slice .nil 0 1 []) (c10 := .int .i64 0) (c11 := .int .i64 0) vs []
        generalize RS.mk (rowsO (vs.map Tr.val)) = LL at *
        simp [h0, h6, h8, h10, h11, h12, hn, hn', hlt, hx, hy, hnv, hnL, hw, pkV]
        refine hin _ rfl ?_ ?_ ?_ ?_ ?_ _ (fun st' k1 kb k0 k2 k3 k4 k5 k6 k7 k8 => ?_)
        · simp [h0]
        · simp [h8]
        · simp
        · simp
        · simp
        · simp [h0, h6, h8, h10, h11, h12] at k1 kb k0 k2 k3 k4 k5 k6 k7 k8
          simp [k1, kb, k0, k2, k3, k4, k5, k6, k7, k8, hw]
          refine hkey _ ?_ ?_ ?_ ?_ ?_ ?_ ?_ <;> simp [k1, k0, k4, k5, k6, k7, h0, h8]
theorem arr_wf {vs : List Tr} (hw : ∀ v ∈ vs, v.wf) (hl : vs.length ≤ 2147483647) : (Tr.mk 4 [] [] 0 0 0 none true (arrK vs 0)).wf := by
  have e1 : IntKind.i64.min = -9223372036854775808 := rfl
  have e2 : IntKind.i64.max = 9223372036854775807 := rfl
  have e3 : IntKind.u64.min = 0 := rfl
  have e4 : IntKind.u64.max = 18446744073709551615 := rfl
  have hk : ∀ (vs : List Tr) (i : Nat), (∀ v ∈ vs, v.wf) → i + vs.length ≤ 2147483647 → (arrK vs i).wf := by
    intro vs
    induction vs with
    | nil => intros; trivial
    | cons v r ih =>
      intro i h hi
      simp only [List.length_cons] at hi
      refine ⟨?_, h v List.mem_cons_self, ih (i + 1) (fun w hw => h w (List.mem_cons_of_mem _ hw)) (by omega)⟩
      have := digL_length i i (Nat.le_refl _)
      simp only [reachBytes]; omega
  simp only [Tr.wf, e1, e2, e3, e4, List.length_nil, bl]
  refine ⟨by omega, by omega, by omega, by omega, by omega, by omega, by omega, by omega, by omega, by omega, by omega, ?_, hk vs 0 hw (by omega)⟩
  rw [arrK_len]; simp only [reachBytes]; omega
theorem arr_good {ks : Ks} (hW : (Tr.mk 4 [] [] 0 0 0 none true ks).wf) (h : (Tr.mk 4 [] [] 0 0 0 none true ks).fine 300 5000 = true) : ks.sz ≤ 90000 ∧ ks.good := by
  obtain ⟨h1, h2, _, _⟩ := fine_sz (by omega) hW h
  simp only [Tr.right, Bool.and_eq_true] at h2
  obtain ⟨_, _, _, h2⟩ := h2
  simp only [Int.reduceEq, if_false, or_self] at h2
  simp only [Tr.sz, Tr.nb, Tr.nodes] at h1
  exact ⟨by simp only [Ks.sz]; omega, Ks.right_good h2⟩
theorem arrK_mem_sz : ∀ (vs : List Tr) (i : Nat), ∀ v ∈ vs, v.sz ≤ (arrK vs i).sz
  | w :: r, i, v, h => by
    simp only [arrK, Ks.sz_cons]
    simp only [List.mem_cons] at h
    rcases h with rfl | h
    · omega
    · have := arrK_mem_sz r (i + 1) v h; omega
theorem law_FnDocIterate (b : RS) (vs : List Tr) (hb : b.l = vFl vs) (hwf : ∀ v ∈ vs, v.wf) (o : Option (List UInt8)) (hlo : (bl o).length ≤ reachBytes) (h : H) {s : Nat → Nat × Nat} (hS : Sens h.Γ s) :
    CW fns 8 [b.fv 44 8, bAV 5 o] h fun q => q.1 = .bool true := by
  refine (runs8 (Nat.le_of_ble_eq_true rfl) ?_)
  have hn : aLen false (b.fv 44 8) = some (.int .i64 vs.length) := RS.fv_len (by omega) (by rw [hb, vFl_length])
  by_cases g1 : 2147483647 < vs.length
  · have g1' : (2147483647 : Int) < vs.length := by omega
    simp [hn, g1', pkV]
  have g1' : ¬ (2147483647 : Int) < vs.length := by omega
  by_cases g2 : 2147483647 < (bl o).length
  · have g2' : (2147483647 : Int) < (bl o).length := by omega
    simp [hn, g1', g2', pkV]
  have g2' : ¬ (2147483647 : Int) < (bl o).length := by omega
  have hD := c_docArray b vs hb (by omega)
  have hW := arr_wf hwf (by omega)
  have hF := c_docFine _ hW
  simp only [Tr.cells] at hF
  have hlK : (arrK vs 0).len = vs.length := arrK_len vs 0
  have e0 : bAV 5 none = .slice .nil 0 1 [] := rfl
  rw [e0] at hF
  cases hf : (Tr.mk 4 [] [] 0 0 0 none true (arrK vs 0)).fine 300 5000 with
  | false =>
    rw [hf] at hF
    simp [hn, g1', g2', hD, hF, pkV]
  | true =>
  rw [hf] at hF
  by_cases g3 : 100 < (bl o).length
  · have g3' : (100 : Int) < (bl o).length := by omega
    simp [hn, g1', g2', hD, hF, g3', pkV]
  have g3' : ¬ (100 : Int) < (bl o).length := by omega
  obtain ⟨f1, f2⟩ := arr_good hW hf
  have hKl : (arrK vs 0).len ≤ reachBytes := by rw [hlK]; simp only [reachBytes]; omega
  have hKw : (arrK vs 0).wf := hW.2.2.2.2.2.2.2.2.2.2.2.2
  have hB := c_DocBytes_of true (l_DocBytes (arrK vs 0)) hKl hKw (by omega)
  have hne : (arrK vs 0).doc ≠ [] := fun e => by have := Ks.doc_length (arrK vs 0); rw [e] at this; simp at this
  have hmk : ∀ {l : List UInt8}, l ≠ [] → BS.mk l = .own true l := fun {l} h => by cases l <;> first | exact absurd rfl h | rfl
  rw [hmk hne] at hB
  have hA := c_docAwake h.mask hS
  have hsz : (arrK vs 0).sz = (arrK vs 0).nb + 18 * (arrK vs 0).nodes := rfl
  have hnl := Ks.len_le (arrK vs 0)
  have hvl : vs.length ≤ 100000 := by omega
  have hws : ∀ v ∈ vs, v.wf ∧ v.sz ≤ 90000 := fun v hv => ⟨hwf v hv, by have := arrK_mem_sz vs 0 v hv; omega⟩
  have hDl : (RS.mk ((dosL (bl o)).map (AV.int .i64))).l = (dosL (bl o)).map (AV.int .i64) := RS.l_mk _
  have hdl : (dosL (bl o)).length = (bl o).length := by simp [dosL]
  have hI := c_Iterate (K := arrK vs 0) rfl f1 f2 hKw (s := s) (dosL (bl o)) (RS.mk ((dosL (bl o)).map (AV.int .i64))) hDl (by omega) (dosL_lt (bl o)) h.mask hS
  have hRl : (RS.mk (stepsC vs 0 (dosL (bl o)))).l = stepsC vs 0 (dosL (bl o)) := RS.l_mk _
  have n1 : aLen false ((RS.mk (stepsC vs 0 (dosL (bl o)))).lv 74 13) = some (.int .i64 (bl o).length) := RS.lv_len (by omega) (by rw [hRl, stepsC_length, hdl])
  have n2 : aLen false ((RS.mk ((dosL (bl o)).map (AV.int .i64))).lv 3 1) = some (.int .i64 (bl o).length) := RS.lv_len (by omega) (by rw [hDl]; simp [hdl])
  have hd1 := l_dos (o := o) (by omega) (bl o) [] RS.nil
  have hd2 := l_docs (b := b) (vs := vs) hb (by omega) vs []
  have hd3 := l_main (b := b) (vs := vs) hb hvl hws (dl := dosL (bl o)) (by omega) (dosL (bl o)) [] 0 []
  have ho1 : (BS.own true (arrK vs 0).doc).opt = some (arrK vs 0).doc := rfl
  generalize RS.mk (stepsC vs 0 (dosL (bl o))) = R at *
  generalize hDD : RS.mk ((dosL (bl o)).map (AV.int .i64)) = DD at *
  simp [hn, g1', g2', hD, hF, g3', pkV]
  refine hd1 _ rfl ?_ ?_ ?_ ?_ _ (fun st' k1 kb k2 k3 k4 k5 => ?_)
  · simp
  · simp
  · simp [RS.av]
  · simp [RS.l]
  rw [RS.nil_app, hDD] at k5
  simp at k1 kb k2 k3 k4
  simp [k1, kb, k2, k3, k4, k5]
  refine hd2 _ rfl ?_ ?_ ?_ _ (fun st2 j1 jb j2 j3 j4 j5 j6 => ?_)
  · simp [k2]
  · simp
  · simp [docsV]
  simp [k1, kb, k2, k3, k4, k5] at j1 jb j2 j3 j4 j5
  simp [j1, jb, j2, j3, j4, j5, j6, hB, hI, n1, n2, ho1]
  refine hd3 DD.sh R _ rfl (dosL_lt (bl o)) (by rw [hRl]; rfl) rfl (by omega) ?_ ?_ (by rw [RS.sh_l]; exact hDl) ?_ ?_ ?_ ?_ _ (fun st3 i1 => ?_)
  · simp [j2]
  · simp [j5]
  · simp [j6]
  · simp
  · simp
  · simp
  · simp [j1] at i1
    simp [i1, hA]
end Go.Proofs.YtcodfehgnjplcaaGreatDoor.Abs
