/- What the law's function FnDocArray computes. -/
import Derived.Test.YtcodfehgnjplcaaGreatDoorEArr
import Derived.Test.YtcodfehgnjplcaaGreatDoorEDocFine
namespace Go.Proofs.YtcodfehgnjplcaaGreatDoor.Abs
set_option linter.all false
open Go.Proofs
set_option linter.unusedVariables false
set_option linter.unusedSimpArgs false
set_option maxRecDepth 100000
set_option maxHeartbeats 8000000

theorem Ks.elems_at (pre r : Ks) (nm : List UInt8) (v : Tr) : (pre.app (.cons nm v r)).elems[pre.len]? = some (elemL nm v) := by
  rw [Ks.elems_app, List.getElem?_append_right (by simp)]
  simp [Ks.elems]
theorem BS.mk_ne3 {l : List UInt8} (h : l ≠ []) : BS.mk l = .own true l := by cases l <;> first | exact absurd rfl h | rfl
theorem c_SameRaw (k k' : Int) (o : Option (List UInt8)) (l : List UInt8) : ∀ hE : H, callω fns 20 [.agg [.int .i64 k, bAV 5 o], .int .i64 k', bAV 5 (oB l)] hE = some (.bool (decide (k = k') && bl o == l), hE) := by
  intro hE
  have e1 : bl (oB l) = l := bl_oB l
  refine run20 (Nat.le_of_ble_eq_true rfl) ?_
  by_cases h : k = k'
  · simp [h, e1]
  · simp [h, e1]
theorem Ks.split_at : ∀ (K : Ks) (i : Nat), i < K.len → ∃ (pre : Ks) (nm : List UInt8) (v : Tr) (r : Ks), K = pre.app (.cons nm v r) ∧ pre.len = i
  | .nil, i, h => by simp [Ks.len] at h
  | .cons nm v r, 0, _ => ⟨.nil, nm, v, r, rfl, rfl⟩
  | .cons nm v r, i + 1, h => by
    obtain ⟨pre, n2, v2, r2, e, hl⟩ := Ks.split_at r i (by simp only [Ks.len] at h; omega)
    exact ⟨.cons nm v pre, n2, v2, r2, by rw [e]; rfl, by simp [Ks.len, hl]⟩
theorem Ks.app_parts {nm : List UInt8} {v : Tr} {r : Ks} : ∀ (pre : Ks), (pre.app (.cons nm v r)).wf → v.wf ∧ nm.length + v.sz ≤ (pre.app (.cons nm v r)).sz
  | .nil, h => by
    refine ⟨h.2.1, ?_⟩
    show nm.length + v.sz ≤ (Ks.cons nm v r).sz
    rw [Ks.sz_cons]; omega
  | .cons a b p, h => by
    obtain ⟨q1, q2⟩ := Ks.app_parts p h.2.2
    refine ⟨q1, ?_⟩
    show nm.length + v.sz ≤ (Ks.cons a b (p.app (.cons nm v r))).sz
    rw [Ks.sz_cons]; omega

theorem Ks.app_good {nm : List UInt8} {v : Tr} {r : Ks} : ∀ (pre : Ks), (pre.app (.cons nm v r)).good → plainL nm = true ∧ ∃ d, v.right d = true
  | .nil, h => ⟨h.1, h.2.1⟩
  | .cons a b p, h => Ks.app_good p h.2.2
theorem arrK_wf : ∀ (vs : List Tr) (i : Nat), (∀ v ∈ vs, v.wf) → i + vs.length ≤ 2147483647 → (arrK vs i).wf
  | [], _, _, _ => trivial
  | v :: r, i, h, hi => by
    simp only [List.length_cons] at hi
    refine ⟨?_, h v List.mem_cons_self, arrK_wf r (i + 1) (fun w hw => h w (List.mem_cons_of_mem _ hw)) (by omega)⟩
    have := digL_length i i (Nat.le_refl _)
    simp only [reachBytes]; omega
theorem arrK_app : ∀ (a b : List Tr) (i : Nat), arrK (a ++ b) i = (arrK a i).app (arrK b (i + a.length))
  | [], b, i => rfl
  | v :: r, b, i => by simp only [List.cons_append, arrK, Ks.app, arrK_app r b (i + 1), List.length_cons]; rw [show i + 1 + r.length = i + (r.length + 1) by omega]

theorem l_FnDocArray {b : RS} {vs : List Tr} {K : Ks} (hb : b.l = vFl vs) (hK0 : K = arrK vs 0) (hsz : K.sz ≤ 90000) (hL : K.len ≤ reachBytes) :
    ∀ (rest pre : List Tr) (r p : Ks) (st : St) (M : RS), vs = pre ++ rest → r = arrK rest pre.length → p = arrK pre 0 → K = p.app r → r.wf → r.good → r.sz ≤ 90000 → st.s 0 = b.fv 44 8 → st.s 7 = M.av 32 2 → M.l = rawsC 5 K.elems → st.s 9 = .int .i64 pre.length →
    ∀ Q : Ex × St → Prop, (∀ st' : St, st'.h = st.h → st'.b = st.b → st'.s 0 = st.s 0 → st'.s 1 = st.s 1 → st'.s 6 = st.s 6 → Q (.exit 0, st')) → LoopR fns lc5_0 st Q
  | [], pre, r, p, st, M, hv, hr0, hp0, hK, hW, hG, hr, h0, h8, hM, h10, Q, hA => by
    refine loopω_run fns ?_
    have hn : aLen false (b.fv 44 8) = some (.int .i64 pre.length) := RS.fv_len (by omega) (by rw [hb, vFl_length, hv]; simp)
    have hl : aLen false (b.lv 44 8) = some (.int .i64 pre.length) := RS.lv_len (by omega) (by rw [hb, vFl_length, hv]; simp)
    simp [h0, h10, hn, hl]
    refine hA _ ?_ ?_ ?_ ?_ ?_ <;> simp [h0]
  | v :: rest, pre, r, p, st, M, hv, hr0, hp0, hK, hW, hG, hr, h0, h8, hM, h10, Q, hA => by
    refine loopω_run fns ?_
    simp only [arrK] at hr0
    subst hr0
    obtain ⟨hp, ⟨dd, hR⟩, hGr⟩ := hG
    rw [Ks.sz_cons] at hr
    have hplen : p.len = pre.length := by rw [hp0, arrK_len]
    have hlenV : vs.length = pre.length + (rest.length + 1) := by rw [hv]; simp
    have hlenK : K.len = vs.length := by rw [hK0, arrK_len]
    have hlt : (pre.length : Int) < pre.length + (rest.length + 1) := by omega
    have hlen : K.elems.length = vs.length := by rw [Ks.elems_length]; exact hlenK
    have hn : aLen false (b.fv 44 8) = some (.int .i64 ((pre.length : Int) + (rest.length + 1))) := by
      have := RS.fv_len (e := 44) (sz := 8) (b := b) (n := vs.length) (by omega) (by rw [hb, vFl_length]); rw [hlenV] at this; simpa using this
    have hx := RS.fv_at8 (e := 44) (b := b) (k := pre.length) (m := vs.length) (pre := vFl pre) (r := v.cells 5 66 ++ vFl rest) (by rw [hb, hv]; simp [vFl]) (vFl_length pre) (by rw [hb, vFl_length]) (by omega)
    have hV := c_DocValue v hW.2.1 (by omega)
    have hx2 := RS.fv_at2 (e := 32) (b := M) (k := pre.length) (m := K.elems.length) (pre := rawsC 5 p.elems) (r := rawsC 5 (elemL (digL pre.length) v :: (arrK rest (pre.length + 1)).elems)) (by rw [hM, hK, Ks.elems_app, rawsC_append]; rfl) (by simp [hplen]) (by rw [hM]; simp) (by omega)
    rw [rawsC_cons, kv_elem hp hR] at hx2
    have hsr := c_SameRaw v.kind v.kind (oB v.val) v.val
    have hoo : (BS.mk v.val).opt = oB v.val := rfl
    have hbo : bl (oB v.val) = v.val := bl_oB _
    have hw2 : IntKind.i64.wrap ((pre.length : Int) + 1) = pre.length + 1 := by simp only [reachBytes] at hL; exact wrap_i64 (by omega) (by omega)
    simp only [List.cons_append, List.nil_append] at hx2
    have hkey : ∀ st2 : St, st2.h = st.h → st2.b = st.b → st2.s 0 = st.s 0 → st2.s 1 = st.s 1 → st2.s 6 = st.s 6 → st2.s 7 = M.sh.av 32 2 → st2.s 9 = .int .i64 (pre.length + 1 : Nat) → LoopR fns lc5_0 st2 Q := by
      intro st2 q1 qb q2 q3 q4 q6 q7
      refine l_FnDocArray hb hK0 hsz hL rest (pre ++ [v]) (arrK rest (pre.length + 1)) (arrK (pre ++ [v]) 0) st2 M.sh ?_ ?_ rfl ?_ hW.2.2 hGr (by omega) ?_ q6 ?_ ?_ Q (fun st' k1 kb k2 k3 k4 => hA st' (k1.trans q1) (kb.trans qb) (k2.trans q2) (k3.trans q3) (k4.trans q4))
      · rw [hv]; simp
      · simp
      · rw [hK, hp0, arrK_app, Ks.app_assoc]; simp [arrK, Ks.app]
      · rw [q2, h0]
      · simpa using hM
      · rw [q7]; simp
    generalize oB v.val = ov at *
    generalize v.val = vv at *
    clear hR hp hK
    cases v with
    | mk k t m n bi hi bb kn' ks =>
    simp only [Tr.kind] at hsr hx2
    simp only [Tr.cells, List.cons_append, List.nil_append] at hV hx
    simp [h0, h8, h10, hn, hlt, hx, hV, hx2, hsr, hoo, hbo, hw2, ex2_0, ex2_1]
    refine hkey _ ?_ ?_ ?_ ?_ ?_ ?_ ?_ <;> simp [h0, h8]
theorem arr_wf {vs : List Tr} (hw : ∀ v ∈ vs, v.wf) (hl : vs.length ≤ 2147483647) : (Tr.mk 4 [] [] 0 0 0 none true (arrK vs 0)).wf := by
  have e1 : IntKind.i64.min = -9223372036854775808 := rfl
  have e2 : IntKind.i64.max = 9223372036854775807 := rfl
  have e3 : IntKind.u64.min = 0 := rfl
  have e4 : IntKind.u64.max = 18446744073709551615 := rfl
  simp only [Tr.wf, e1, e2, e3, e4, List.length_nil, bl]
  refine ⟨by omega, by omega, by omega, by omega, by omega, by omega, by omega, by omega, by omega, by omega, by omega, ?_, arrK_wf vs 0 hw (by omega)⟩
  rw [arrK_len]; simp only [reachBytes]; omega
theorem arr_good {ks : Ks} (hW : (Tr.mk 4 [] [] 0 0 0 none true ks).wf) (h : (Tr.mk 4 [] [] 0 0 0 none true ks).fine 300 5000 = true) : ks.sz ≤ 90000 ∧ ks.good := by
  obtain ⟨h1, h2, _, _⟩ := fine_sz (by omega) hW h
  simp only [Tr.right, Bool.and_eq_true] at h2
  obtain ⟨_, _, _, h2⟩ := h2
  simp only [Int.reduceEq, if_false, or_self] at h2
  simp only [Tr.sz, Tr.nb, Tr.nodes] at h1
  exact ⟨by simp only [Ks.sz]; omega, Ks.right_good h2⟩

theorem law_FnDocArray (b : RS) (vs : List Tr) (hb : b.l = vFl vs) (hwf : ∀ v ∈ vs, v.wf) (n : Int) (h1 : IntKind.i64.min ≤ n) (h2 : n ≤ IntKind.i64.max) (h : H) {s : Nat → Nat × Nat} (hS : Sens h.Γ s) :
    CW fns 5 [b.fv 44 8, .int .i64 n] h fun q => q.1 = .bool true := by
  refine (runs5 (Nat.le_of_ble_eq_true rfl) ?_)
  have hn : aLen false (b.fv 44 8) = some (.int .i64 vs.length) := RS.fv_len (by omega) (by rw [hb, vFl_length])
  by_cases g1 : 2147483647 < vs.length
  · have g1' : (2147483647 : Int) < vs.length := by omega
    simp [hn, g1']
  have g1' : ¬ (2147483647 : Int) < vs.length := by omega
  have hD := c_docArray b vs hb (by omega)
  have hW := arr_wf hwf (by omega)
  have hF := c_docFine _ hW
  simp only [Tr.cells] at hF
  have hlK : (arrK vs 0).len = vs.length := arrK_len vs 0
  cases hf : (Tr.mk 4 [] [] 0 0 0 none true (arrK vs 0)).fine 300 5000 with
  | false =>
    rw [hf] at hF
    have e0 : bAV 5 none = .slice .nil 0 1 [] := rfl
    rw [e0] at hF
    simp [hn, g1', hD, hF]
  | true =>
  rw [hf] at hF
  have e0 : bAV 5 none = .slice .nil 0 1 [] := rfl
  rw [e0] at hF
  by_cases g2 : n < 0
  · simp [hn, g1', hD, hF, g2]
  obtain ⟨f1, f2⟩ := arr_good hW hf
  have hKl : (arrK vs 0).len ≤ reachBytes := by rw [hlK]; simp only [reachBytes]; omega
  have hKw : (arrK vs 0).wf := arrK_wf vs 0 hwf (by omega)
  obtain ⟨d1, d2, d3, d4, d5, d6⟩ := doc_facts f1 f2
  have hB := c_DocBytes_of true (l_DocBytes (arrK vs 0)) hKl hKw (by omega)
  have hVl := c_arrVals (arrK vs 0).doc d2 d3 (by rw [d4])
  rw [d4] at hVl
  rw [BS.mk_ne3 d1] at hB
  have hA := c_docAwake h.mask hS
  have e2 : IntKind.i64.max = 9223372036854775807 := rfl
  have hlen := Ks.elems_length (arrK vs 0)
  generalize hKK : arrK vs 0 = K at *
  have hL2 : (RS.mk (rawsC 5 K.elems)).l = rawsC 5 K.elems := RS.l_mk _
  have n2 : aLen false ((RS.mk (rawsC 5 K.elems)).lv 32 2) = some (.int .i64 vs.length) := RS.lv_len (by omega) (by rw [hL2]; simp [hlen, hlK])
  generalize RS.mk (rawsC 5 K.elems) = M at *
  have ho1 : (BS.own true K.doc).opt = some K.doc := rfl
  have ho2 : (BS.own true K.doc).sh.opt = some K.doc := rfl
  simp [hn, g1', hD, hF, g2, hB, hVl, n2, ho1, ho2, ex2_0, ex2_1]
  refine l_FnDocArray (K := K) hb hKK.symm f1 hKl vs [] K .nil _ M rfl (by rw [← hKK]; rfl) rfl rfl hKw f2 f1 ?_ ?_ hL2 ?_ _ (fun st' k1 kb k2 k3 k4 => ?_)
  · simp
  · simp
  · simp
  · simp at k1 kb k2 k3 k4
    by_cases g3 : (vs.length : Int) ≤ n
    · have hI := c_arrIdx0 f1 f2 n (by omega) (by omega) (by omega) (hE := h.mask) hS
      simp [k1, kb, k2, k3, k4, hI, hA, g3, hn, ho1, ho2, ex2_0, ex2_1]
    · have hnl : n.toNat < vs.length := by omega
      have hsp : vs = vs.take n.toNat ++ vs[n.toNat] :: vs.drop (n.toNat + 1) := by rw [← List.drop_eq_getElem_cons hnl, List.take_append_drop]
      generalize vs[n.toNat] = v at *
      generalize hpv : vs.take n.toNat = pv at *
      generalize vs.drop (n.toNat + 1) = rv at *
      have hpl : pv.length = n.toNat := by rw [← hpv, List.length_take]; omega
      have e : K = (arrK pv 0).app (.cons (digL (0 + pv.length)) v (arrK rv (0 + pv.length + 1))) := by rw [← hKK, hsp, arrK_app]; rfl
      obtain ⟨q1, q2⟩ := Ks.app_parts (arrK pv 0) (by rw [← e]; exact hKw)
      obtain ⟨hp, dd, hR⟩ := Ks.app_good (arrK pv 0) (by rw [← e]; exact f2)
      rw [← e] at q2
      have hat : K.elems[n.toNat]? = some (elemL (digL (0 + pv.length)) v) := by rw [← hpl, e, ← arrK_len pv 0, Ks.elems_at]
      have hI := c_arrIdx1 f1 f2 n (by omega) (by omega) hat hp hR (by omega) (hE := h.mask) hS
      have hV := c_DocValue v q1 (by omega)
      have hx := RS.fv_at8 (e := 44) (b := b) (k := n.toNat) (m := vs.length) (pre := vFl pv) (r := v.cells 5 66 ++ vFl rv) (by rw [hb, hsp]; simp [vFl]) (by rw [vFl_length, hpl]) (by rw [hb, vFl_length]) hnl
      rw [show ((n.toNat : Nat) : Int) = n by omega] at hx
      have hsr := c_SameRaw v.kind v.kind (oB v.val) v.val
      have hoo : (BS.mk v.val).opt = oB v.val := rfl
      have hbo : bl (oB v.val) = v.val := bl_oB _
      generalize oB v.val = ov at *
      generalize v.val = vv at *
      clear hat q1 q2 hR hp e hsp
      cases v with
      | mk k t m n' bi hi bb kn' ks' =>
      simp only [Tr.kind] at hsr hI
      simp only [Tr.cells, List.cons_append, List.nil_append] at hV hx
      simp [k1, kb, k2, k3, k4, hI, g3, hn, hx, hV, hsr, hoo, hbo, ho1, ho2, ex2_0, ex2_1]
end Go.Proofs.YtcodfehgnjplcaaGreatDoor.Abs
