/- What the law's function FnDocElements computes. -/
import Derived.Test.YtcodfehgnjplcaaGreatDoorELow
import Derived.Test.YtcodfehgnjplcaaGreatDoorEDoc5
import Derived.Test.YtcodfehgnjplcaaGreatDoorEDocFineKids
namespace Go.Proofs.YtcodfehgnjplcaaGreatDoor.Abs
set_option linter.all false
open Go.Proofs
set_option linter.unusedVariables false
set_option linter.unusedSimpArgs false
set_option maxRecDepth 100000
set_option maxHeartbeats 8000000

theorem Ks.elems_at (pre r : Ks) (nm : List UInt8) (v : Tr) : (pre.app (.cons nm v r)).elems[pre.len]? = some (elemL nm v) := by
  rw [Ks.elems_app, List.getElem?_append_right (by simp)]
  simp [Ks.elems]
theorem u64_small (n : Nat) (h : n < 18446744073709551616) : (IntKind.u64.wrap (n : Int)).toNat = n := by simp [IntKind.wrap, IntKind.signed, IntKind.bits]; omega
theorem BS.mk_ne3 {l : List UInt8} (h : l ≠ []) : BS.mk l = .own true l := by cases l <;> first | exact absurd rfl h | rfl
theorem c_SameRaw (k k' : Int) (o : Option (List UInt8)) (l : List UInt8) : ∀ hE : H, callω fns 20 [.agg [.int .i64 k, bAV 5 o], .int .i64 k', bAV 5 (oB l)] hE = some (.bool (decide (k = k') && bl o == l), hE) := by
  intro hE
  have e1 : bl (oB l) = l := bl_oB l
  refine run20 (Nat.le_of_ble_eq_true rfl) ?_
  by_cases h : k = k'
  · simp [h, e1]
  · simp [h, e1]
theorem Ks.split_at : ∀ (K : Ks) (i : Nat), i < K.len → ∃ (pre : Ks) (nm : List UInt8) (v : Tr) (r : Ks), K = pre.app (.cons nm v r) ∧ pre.len = i
  | .nil, i, h => by simp [Ks.len] at h
  | .cons nm v r, 0, _ => ⟨.nil, nm, v, r, rfl, rfl⟩
  | .cons nm v r, i + 1, h => by
    obtain ⟨pre, n2, v2, r2, e, hl⟩ := Ks.split_at r i (by simp only [Ks.len] at h; omega)
    exact ⟨.cons nm v pre, n2, v2, r2, by rw [e]; rfl, by simp [Ks.len, hl]⟩

theorem Ks.app_parts {nm : List UInt8} {v : Tr} {r : Ks} : ∀ (pre : Ks), (pre.app (.cons nm v r)).wf → v.wf ∧ nm.length + v.sz ≤ (pre.app (.cons nm v r)).sz
  | .nil, h => by
    refine ⟨h.2.1, ?_⟩
    show nm.length + v.sz ≤ (Ks.cons nm v r).sz
    rw [Ks.sz_cons]; omega
  | .cons a b p, h => by
    obtain ⟨q1, q2⟩ := Ks.app_parts p h.2.2
    refine ⟨q1, ?_⟩
    show nm.length + v.sz ≤ (Ks.cons a b (p.app (.cons nm v r))).sz
    rw [Ks.sz_cons]; omega
theorem l_FnDocElements {K : Ks} {kn : Bool} (hsz : K.sz ≤ 90000) (hL : K.len ≤ reachBytes) :
    ∀ (r pre : Ks) (st : St) (L M : RS), K = pre.app r → r.wf → r.good → r.sz ≤ 90000 → st.s 0 = Ks.av 5 66 K kn → st.s 6 = L.av 22 1 → L.l = rowsC 5 K.elems → st.s 8 = M.av 32 2 → M.l = rawsC 5 K.elems → st.s 10 = .int .i64 pre.len →
    ∀ Q : Ex × St → Prop, (∀ st' : St, st'.h = st.h → st'.s 0 = st.s 0 → st'.s 1 = st.s 1 → st'.s 5 = st.s 5 → Q (.exit 0, st')) → LoopR fns lc7_0 st Q
  | .nil, pre, st, L, M, hK, hW, hG, hr, h0, h6, hLl, h8, hM, h10, Q, hA => by
    refine loopω_run fns ?_
    have hlen : K.len = pre.len := by rw [hK, Ks.len_app]; simp [Ks.len]
    simp [h0, h10, hlen]
    refine hA _ ?_ ?_ ?_ ?_ <;> simp [h0]
  | .cons nm v r, pre, st, L, M, hK, hW, hG, hr, h0, h6, hLl, h8, hM, h10, Q, hA => by
    refine loopω_run fns ?_
    obtain ⟨hp, ⟨dd, hR⟩, hGr⟩ := hG
    rw [Ks.sz_cons] at hr
    have hlenK : K.len = pre.len + (r.len + 1) := by rw [hK, Ks.len_app]; simp [Ks.len]
    have hlt : (pre.len : Int) < pre.len + (r.len + 1) := by omega
    have hlen : K.elems.length = pre.len + (r.len + 1) := by rw [Ks.elems_length]; exact hlenK
    have hix := Ks.av_ix 5 66 pre r nm v kn
    rw [← hK] at hix
    have hV := c_DocValue v hW.2.1 (by omega)
    have hE := c_DocElem_of nm hV (by omega)
    have hne : elemL nm v ≠ [] := by simp [elemL, hdL]
    rw [BS.mk_ne3 hne] at hE
    have hx1 := RS.fv_at' (e := 22) (b := L) (k := pre.len) (pre := rowsC 5 pre.elems) (r := rowsC 5 r.elems) (x := bAV 5 (some (elemL nm v))) (by rw [hLl, hK, Ks.elems_app, rowsC_append]; rfl) (by simp)
    have hx2 := RS.fv_at2 (e := 32) (b := M) (k := pre.len) (m := K.elems.length) (pre := rawsC 5 pre.elems) (r := rawsC 5 (elemL nm v :: r.elems)) (by rw [hM, hK, Ks.elems_app, rawsC_append]; rfl) (by simp) (by rw [hM]; simp) (by omega)
    rw [rawsC_cons, kv_elem hp hR] at hx2
    have hsr := c_SameRaw v.kind v.kind (oB v.val) v.val
    have hoo : (BS.mk v.val).opt = oB v.val := rfl
    have hbo : bl (oB v.val) = v.val := bl_oB _
    have hw2 : IntKind.i64.wrap ((pre.len : Int) + 1) = pre.len + 1 := by simp only [reachBytes] at hL; exact wrap_i64 (by omega) (by omega)
    have hc9 : (AV.str nm :: Tr.cells 5 66 v).length = 9 := by simp
    have hol : (BS.own true (elemL nm v)).l = elemL nm v := rfl
    simp only [List.cons_append, List.nil_append] at hx2
    have hkey : ∀ st2 : St, st2.h = st.h → st2.s 0 = st.s 0 → st2.s 1 = st.s 1 → st2.s 5 = st.s 5 → st2.s 6 = L.sh.av 22 1 → st2.s 8 = M.sh.av 32 2 → st2.s 10 = .int .i64 (pre.len + 1 : Nat) → LoopR fns lc7_0 st2 Q := by
      intro st2 q1 q2 q3 q4 q5 q6 q7
      refine l_FnDocElements (kn := kn) hsz hL r (pre.app (.cons nm v .nil)) st2 L.sh M.sh ?_ hW.2.2 hGr (by omega) ?_ q5 ?_ q6 ?_ ?_ Q (fun st' k1 k2 k3 k4 => hA st' (k1.trans q1) (k2.trans q2) (k3.trans q3) (k4.trans q4))
      · rw [hK, Ks.app_assoc]; rfl
      · rw [q2, h0]
      · simpa using hLl
      · simpa using hM
      · rw [q7, Ks.len_app]; simp [Ks.len]
    generalize elemL nm v = E at *
    generalize oB v.val = ov at *
    generalize v.val = vv at *
    clear hR hp hK
    cases v with
    | mk k t m n bi hi b kn' ks =>
    simp only [Tr.kind] at hsr hx2
    simp only [Tr.cells, List.cons_append, List.nil_append] at hE hV hix
    simp [h0, h6, h8, h10, hlenK, hlt, hix, hE, hV, hx1, hx2, hsr, hoo, hbo, hw2, hol, ex2_0, ex2_1]
    refine hkey _ ?_ ?_ ?_ ?_ ?_ ?_ ?_ <;> simp [h0, h6, h8]
theorem fineK_good {ks : Ks} {kn : Bool} (hl : ks.len ≤ reachBytes) (hW : ks.wf) (h : (ks.tr kn).fine 300 5000 = true) : ks.sz ≤ 90000 ∧ ks.good := by
  refine ⟨by have := fine_szK hl hW h; omega, ?_⟩
  have h2 := (fine_sz (by omega) (by simp [Ks.tr, Tr.wf, bl, hl, hW, IntKind.min, IntKind.max, IntKind.signed, IntKind.bits]) h).2.1
  simp only [Ks.tr, Tr.right, Bool.and_eq_true] at h2
  obtain ⟨_, _, _, h2⟩ := h2
  simp only [Int.reduceEq, if_false, or_self] at h2
  exact Ks.right_good h2

theorem law_FnDocElements (ks : Ks) (kn : Bool) (hl : ks.len ≤ reachBytes) (hW : ks.wf) (n : Int) (h1 : IntKind.i64.min ≤ n) (h2 : n ≤ IntKind.i64.max) (h : H) {s : Nat → Nat × Nat} (hS : Sens h.Γ s) :
    CW fns 7 [Ks.av 5 66 ks kn, .int .i64 n] h fun q => q.1 = .bool true := by
  refine (runs7 (Nat.le_of_ble_eq_true rfl) ?_)
  by_cases g1 : 2147483647 < ks.len
  · have g1' : (2147483647 : Int) < ks.len := by omega
    simp [g1']
  have g1' : ¬ (2147483647 : Int) < ks.len := by omega
  have hF := c_docFineKids ks kn hl hW
  cases hf : (ks.tr kn).fine 300 5000 with
  | false =>
    rw [hf] at hF
    simp [g1', hF]
  | true =>
  rw [hf] at hF
  by_cases g2 : n < 0
  · simp [g1', hF, g2]
  obtain ⟨f1, f2⟩ := fineK_good hl hW hf
  obtain ⟨d1, d2, d3, d4, d5, d6⟩ := doc_facts f1 f2
  have hD := c_DocBytes_of kn (l_DocBytes ks) hl hW (by omega)
  have hEl := c_lowElems ks.doc d2 d3 (by rw [d4])
  have hVl := c_lowVals ks.doc d2 d3 (by rw [d4])
  rw [d4] at hEl hVl
  rw [BS.mk_ne3 d1] at hD
  have hA := c_docAwake h.mask hS
  have hw : IntKind.u64.wrap n = n := by
    have e2 : IntKind.i64.max = 9223372036854775807 := rfl
    simp [IntKind.wrap, IntKind.signed, IntKind.bits]; omega
  have hnn : ((n.toNat : Nat) : Int) = n := by omega
  have hin : ∀ X : Nat × List UInt8, atR ks.doc n.toNat = X → X.2.length < 2147483648 → callω fns 33 [bAV 5 (some ks.doc), .int .i64 n] h.mask = some (.tup [(BS.mk (if X.1 = 0 then X.2 else [])).av 5, .int .i64 (if X.1 = 0 then 0 else if X.1 = 2 then 7 else 1)], h.mask) := by
    intro X hX hXl
    have hb : bl (atE ks.doc n.toNat) = if X.1 = 0 then X.2 else [] := by unfold atE; rw [hX]; split <;> rfl
    have := c_lowIndex ks.doc d2 n (s := s) (hE := h.mask) hS (by rw [hw, hb]; split; { omega }; { simp })
    rw [hw, hb] at this
    unfold atC at this
    rw [hX] at this
    exact this
  have hlen := Ks.elems_length ks
  have hL1 : (RS.mk (rowsC 5 ks.elems)).l = rowsC 5 ks.elems := RS.l_mk _
  have hL2 : (RS.mk (rawsC 5 ks.elems)).l = rawsC 5 ks.elems := RS.l_mk _
  have n1 : aLen false ((RS.mk (rowsC 5 ks.elems)).lv 22 1) = some (.int .i64 ks.len) := RS.lv_len (by omega) (by rw [hL1]; simp [hlen])
  have n2 : aLen false ((RS.mk (rawsC 5 ks.elems)).lv 32 2) = some (.int .i64 ks.len) := RS.lv_len (by omega) (by rw [hL2]; simp [hlen])
  generalize RS.mk (rowsC 5 ks.elems) = L at *
  generalize RS.mk (rawsC 5 ks.elems) = M at *
  have ho1 : (BS.own true ks.doc).opt = some ks.doc := rfl
  have ho2 : (BS.own true ks.doc).sh.opt = some ks.doc := rfl
  simp [g1', hF, g2, hD, hEl, hVl, n1, n2, ho1, ho2, ex2_0, ex2_1]
  refine l_FnDocElements (K := ks) (kn := kn) f1 hl ks .nil _ L M rfl hW f2 f1 ?_ ?_ hL1 ?_ hL2 ?_ _ (fun st' k1 k2 k3 k4 => ?_)
  · simp
  · simp
  · simp
  · simp [Ks.len]
  · simp at k1 k2 k3 k4
    by_cases g3 : (ks.len : Int) ≤ n
    · have hat : atR ks.doc n.toNat = (2, []) := by rw [d6, List.getElem?_eq_none (by rw [hlen]; omega)]
      have hI := hin _ hat (by simp)
      simp [k1, k2, k3, k4, hI, hA, g3, ho1, ho2, ex2_0, ex2_1]
    · obtain ⟨pre, nm, v, r, e, hpl⟩ := Ks.split_at ks n.toNat (by omega)
      have hat : atR ks.doc n.toNat = (0, elemL nm v) := by rw [d6, ← hpl, e, Ks.elems_at]
      obtain ⟨q1, q2⟩ := Ks.app_parts pre (by rw [← e]; exact hW)
      rw [← e] at q2
      have hvl := Tr.val_le v
      have hvs : v.sz = v.nb + 18 * v.nodes := rfl
      have hel := elemL_length nm v
      have hI := hin _ hat (by show (elemL nm v).length < 2147483648; omega)
      simp only [if_true] at hI
      have hne : elemL nm v ≠ [] := by simp [elemL, hdL]
      have hV := c_DocValue v q1 (by omega)
      have hE := c_DocElem_of nm hV (by omega)
      rw [BS.mk_ne3 hne] at hI hE
      have hix := Ks.av_ix 5 66 pre r nm v kn
      rw [← e, show ((pre.len : Nat) : Int) = n by omega] at hix
      have hol : (BS.own true (elemL nm v)).l = elemL nm v := rfl
      have hoo : (BS.own true (elemL nm v)).opt = some (elemL nm v) := rfl
      generalize elemL nm v = EL at *
      clear e hat q1 q2 hvl hvs hel hV
      cases v with
      | mk k' t' m' n' bi' hi' bb' kn' ks' =>
      simp only [Tr.cells, List.cons_append, List.nil_append] at hE hix
      simp [k1, k2, k3, k4, hI, g3, hix, hE, hol, hoo, ho1, ho2, ex2_0, ex2_1]
end Go.Proofs.YtcodfehgnjplcaaGreatDoor.Abs
