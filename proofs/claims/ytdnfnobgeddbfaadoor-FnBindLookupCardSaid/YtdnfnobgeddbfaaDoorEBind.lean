/- Documents as values and as bytes: the guards and the comparisons. -/
import Derived.Test.YtdnfnobgeddbfaaDoorEB8
import Derived.Test.YtdnfnobgeddbfaaDoorEB9
import Derived.Test.YtdnfnobgeddbfaaDoorEDoc5
namespace Go.Proofs.YtdnfnobgeddbfaaDoor.Abs
set_option linter.all false
open Go.Proofs
set_option linter.unusedVariables false
set_option linter.unusedSimpArgs false
set_option maxRecDepth 100000
set_option maxHeartbeats 8000000

theorem c_bindRight (v : Tr) (hW : v.wf) : ∀ hE : H, callω fns 8 [.agg (v.cells 5 53)] hE = some (.bool (v.fine 1000 65536), hE) := by
  intro hE
  refine run8 (Nat.le_of_ble_eq_true rfl) ?_
  have h1 := c_docCount v 1000 hW (by omega) (by omega)
  have h2 := c_DocRight v hW
  have h3 := c_docBytes v hW
  unfold Tr.fine
  simp only [Int.cast_ofNat_Int]
  generalize hc : v.count 1000 = c at *
  generalize hr : v.right 200 = cr at *
  generalize hn : IntKind.i64.wrap v.nb = cn at *
  clear hc hr hn
  cases v with
  | mk k t m n bi hi b kn ks =>
  simp only [Tr.cells] at h1 h2 h3 ⊢
  by_cases c3 : c ≤ 1000
  case neg => simp [h1, c3]
  cases cr
  · simp [h1, h2, c3]
  · simp [h1, h2, h3, c3]
theorem c_zzFits1 (v : Tr) : ∃ b, ∀ hE : H, callω fns 7 [.agg (v.cells 5 53)] hE = some (.bool b, hE) := by
  cases v with
  | mk k t m n bi hi bb kn ks =>
  by_cases h1 : 2147483647 < (t.length : Int)
  · refine ⟨false, fun hE => run7 (Nat.le_of_ble_eq_true rfl) ?_⟩; simp [Tr.cells, h1]
  by_cases h2 : 2147483647 < (m.length : Int)
  · refine ⟨false, fun hE => run7 (Nat.le_of_ble_eq_true rfl) ?_⟩; simp [Tr.cells, h1, h2]
  by_cases h3 : 2147483647 < ((bl bb).length : Int)
  · refine ⟨false, fun hE => run7 (Nat.le_of_ble_eq_true rfl) ?_⟩; simp [Tr.cells, h1, h2, h3]
  by_cases h4 : 2147483647 < (ks.len : Int)
  · refine ⟨false, fun hE => run7 (Nat.le_of_ble_eq_true rfl) ?_⟩; simp [Tr.cells, h1, h2, h3, h4]
  refine ⟨true, fun hE => run7 (Nat.le_of_ble_eq_true rfl) ?_⟩; simp [Tr.cells, h1, h2, h3, h4]
theorem c_BindRaw (v : Tr) (hW : v.wf) (hs : v.sz ≤ 1073740000) : ∀ hE : H, callω fns 9 [.agg (v.cells 5 53)] hE = some (.agg [.int .i64 v.kind, bAV 5 (oB v.val)], hE) := by
  intro hE
  have hv := c_DocValue v hW hs
  generalize hV : v.val = V at *
  clear hW hs hV
  refine run9 (Nat.le_of_ble_eq_true rfl) ?_
  cases v with
  | mk k t m n bi hi bb kn ks =>
  simp only [Tr.cells, Tr.kind] at hv ⊢
  simp [hv, oB]
theorem c_BindSame (k k' : Int) (o o' : Option (List UInt8)) : ∀ hE : H, callω fns 16 [.agg [.int .i64 k, bAV 5 o], .agg [.int .i64 k', bAV 5 o']] hE = some (.bool (decide (k = k') && bl o == bl o'), hE) := by
  intro hE
  refine run16 (Nat.le_of_ble_eq_true rfl) ?_
  by_cases h : k = k'
  · simp [h]
  · simp [h]

/-! ### Options of regular expressions -/
def txt8 (m : List UInt8) : Bool := (runesBytes (runesL m)).data.toList == m
mutual
def Tr.texts : Tr → Bool
  | .mk _ _ m _ _ _ _ _ ks => txt8 m && Ks.texts ks
def Ks.texts : Ks → Bool
  | .nil => true
  | .cons _ v r => Tr.texts v && Ks.texts r
end
theorem intsOf_map (k : IntKind) : ∀ l : List Int, intsOf k (l.map (AV.int k)) = some l
  | [] => rfl
  | x :: l => by simp [intsOf, intsOf_map k l]
theorem rs_cv (m : List UInt8) : rsV (.slice .frz 21 1 ((runesL m).map (AV.int .i32))) = some (.str (runesBytes (runesL m)).data.toList) := by
  simp only [rsV, intsOf_map, Option.map_some]
mutual
theorem c_BindTexts : ∀ (v : Tr), v.wf → v.nb ≤ 1000000 → ∀ hE : H, callω fns 34 [.agg (v.cells 5 53)] hE = some (.bool v.texts, hE)
  | .mk k t m n0 bi hi b kn ks, hW, hN => by
    simp only [Tr.wf] at hW
    simp only [Tr.nb] at hN
    intro hE
    refine run34 (Nat.le_of_ble_eq_true rfl) ?_
    have hm : m.length ≤ 70368744177664 := by omega
    have h1 : cvSR 21 (.str m) = some (.slice .frz 21 1 ((runesL m).map (AV.int .i32))) := by simp only [cvSR]; rw [if_pos hm]
    have h2 := rs_cv m
    by_cases hc : (runesBytes (runesL m)).data.toList = m
    case neg =>
      have e : txt8 m = false := by simp [txt8, hc]
      generalize (runesBytes (runesL m)).data.toList = X at *
      have hb : (X == m) = false := by simpa using hc
      simp [hb, Tr.cells, h1, h2, Tr.texts, e, hc]
    case pos =>
      have e : txt8 m = true := by simp [txt8, hc]
      rw [hc] at h2
      simp [Tr.cells, h1, h2, Tr.texts, e]
      refine l_BindTexts ks .nil _ k t m n0 bi hi b kn ?_ ?_ ?_ (by simpa [Ks.app] using hW.2.2.2.2.2.2.2.2.2.2.2.1) hW.2.2.2.2.2.2.2.2.2.2.2.2 (by omega) _ (fun hk st' e => ?_) (fun hk st' e h => ?_)
      · simp
      · simp [Ks.len]
      · simp [Tr.cells, Ks.app]
      · simp [hk, e]
      · simp [hk, h, e]
theorem l_BindTexts : ∀ (r pre : Ks) (st : St) (k : Int) (t m : List UInt8) (n0 bi hi : Int) (b : Option (List UInt8)) (kn : Bool), st.s 1 = .ptr (.loc 1) 0 → st.s 3 = .int .i64 pre.len →
    st.b 1 = some (.cells (Tr.cells 5 53 (.mk k t m n0 bi hi b kn (pre.app r)))) → (pre.app r).len ≤ reachBytes → r.wf → r.nb ≤ 1000000 →
    ∀ Q : Ex × St → Prop, (r.texts = true → ∀ st' : St, st'.h = st.h → Q (.exit 0, st')) → (r.texts = false → ∀ st' : St, st'.h = st.h → st'.s 2 = .bool false → Q (.ret, st')) → LoopR fns lc34_0 st Q
  | .nil, pre, st, k, t, m, n0, bi, hi, b, kn, h1, h6, hb, hL, hW, hN, Q, hA, hB => by
    refine loopω_run fns ?_
    simp only [Ks.app_nil, Tr.cells] at hb
    simp [h1, h6, hb]
    exact hA rfl _ rfl
  | .cons nm v r, pre, st, k, t, m, n0, bi, hi, b, kn, h1, h6, hb, hL, hW, hN, Q, hA, hB => by
    refine loopω_run fns ?_
    have hlt : (pre.len : Int) < ((pre.app (.cons nm v r)).len : Int) := by rw [Ks.len_app]; simp [Ks.len]; omega
    have hb' := hb
    simp only [Tr.cells] at hb'
    have hw2 : IntKind.i64.wrap ((pre.len : Int) + 1) = pre.len + 1 := by
      rw [Ks.len_app, Ks.len] at hL; simp only [reachBytes] at hL; exact wrap_i64 (by omega) (by omega)
    simp only [Ks.nb] at hN
    have hcnt := c_BindTexts v hW.2.1 (by omega)
    cases hv : v.texts with
    | false =>
      rw [hv] at hcnt
      simp [h1, h6, hb', hlt, Ks.av_ix, take8, len8, hw2, hcnt]
      refine hB (by simp [Ks.texts, hv]) _ ?_ ?_ <;> simp
    | true =>
      rw [hv] at hcnt
      simp [h1, h6, hb', hlt, Ks.av_ix, take8, len8, hw2, hcnt]
      refine l_BindTexts r (pre.app (.cons nm v .nil)) _ k t m n0 bi hi b kn ?_ ?_ ?_ (by simpa [Ks.app_assoc, Ks.app] using hL) hW.2.2 (by omega) Q (fun h st' e => hA (by simp [Ks.texts, hv, h]) st' e) (fun h st' e h2 => hB (by simp [Ks.texts, hv, h]) st' e h2)
      · simp [h1]
      · simp [Ks.len_app, Ks.len]
      · simp [Tr.cells, Ks.app_assoc, Ks.app]
end

/-- A right document, not too great. -/
def docOk (v : Tr) : Bool := decide (v.kind = 3) && (v.fine 1000 65536 && v.texts)
theorem docOk_facts {k : Int} {t m : List UInt8} {n bi hi : Int} {bb : Option (List UInt8)} {kn : Bool} {ks : Ks} (hW : (Tr.mk k t m n bi hi bb kn ks).wf) (h : docOk (.mk k t m n bi hi bb kn ks) = true) :
    ks.sz ≤ 90000 ∧ ks.good ∧ ks.wf ∧ ks.len ≤ reachBytes := by
  simp only [docOk, Tr.kind, Bool.and_eq_true, decide_eq_true_eq] at h
  obtain ⟨hk3, hf, _⟩ := h
  have hk3 : k = 3 := of_decide_eq_true hk3
  subst hk3
  obtain ⟨h1, h2, _, _⟩ := fine_sz (by omega) hW hf
  simp only [Tr.right, Bool.and_eq_true] at h2
  obtain ⟨_, _, _, h2⟩ := h2
  simp only [Int.reduceEq, if_false, or_self] at h2
  simp only [Tr.sz, Tr.nb, Tr.nodes] at h1
  simp only [Tr.wf] at hW
  exact ⟨by simp only [Ks.sz]; omega, Ks.right_good h2, hW.2.2.2.2.2.2.2.2.2.2.2.2, hW.2.2.2.2.2.2.2.2.2.2.2.1⟩
theorem c_bindDoc (k : Int) (t m : List UInt8) (n bi hi : Int) (bb : Option (List UInt8)) (kn : Bool) (ks : Ks) (hW : (Tr.mk k t m n bi hi bb kn ks).wf) :
    ∀ hE : H, callω fns 12 [.agg (Tr.cells 5 53 (.mk k t m n bi hi bb kn ks))] hE = some (if docOk (.mk k t m n bi hi bb kn ks) then .tup [(BS.mk ks.doc).av 5, .bool true] else .tup [.slice .nil 0 1 [], .bool false], hE) := by
  intro hE
  have hR := c_bindRight _ hW
  have hT := fun h : Tr.fine (.mk k t m n bi hi bb kn ks) 1000 65536 = true => c_BindTexts _ hW (by have := (fine_sz (by omega) hW h).2.2.2; omega)
  have hD := fun h : docOk (.mk k t m n bi hi bb kn ks) = true => c_DocBytes_of kn (l_DocBytes ks) (docOk_facts hW h).2.2.2 (docOk_facts hW h).2.2.1 (by have := (docOk_facts hW h).1; omega)
  refine run12 (Nat.le_of_ble_eq_true rfl) ?_
  unfold docOk at *
  generalize hf : Tr.fine (.mk k t m n bi hi bb kn ks) 1000 65536 = F at *
  generalize ht : Tr.texts (.mk k t m n bi hi bb kn ks) = T at *
  simp only [Tr.cells, Tr.kind] at *
  clear hf ht hW
  by_cases hk : k = 3
  case neg => simp [hk]
  subst hk
  cases F
  · simp [hR]
  cases T
  · simp [hR, hT rfl]
  simp [hR, hT rfl, hD (by simp)]

/-! ### What its bytes say -/
theorem doc_facts {ks : Ks} (hs : ks.sz ≤ 90000) (hg : ks.good) : ks.doc ≠ [] ∧ ks.doc.length < 2147483648 ∧ okL ks.doc = true ∧ dR ks.doc = (ks.elems, true) ∧ docC ks.doc = 0 ∧
    (∀ k, atR ks.doc k = match ks.elems[k]? with | some x => (0, x) | none => (2, [])) := by
  obtain ⟨n1, n2⟩ := doc_num ks (by omega)
  have hlen := Ks.doc_length ks
  have hb := Ks.body_le ks
  simp only [Ks.sz] at hs
  have hok : okL ks.doc = true := by
    unfold okL; rw [n1, hlen]
    simp; omega
  obtain ⟨e1, e2, e3⟩ := elemsR_body ks (ks.doc.length + 1) [0] hg (by simp only [Ks.sz]; omega) (by omega) (by simp)
  have hn : num32 ks.doc - 4 = ((ks.body.length + [(0 : UInt8)].length : Nat) : Int) := by rw [n1]; simp; omega
  have hdR : dR ks.doc = (ks.elems, true) := by unfold dR; rw [hn, n2]; exact e1
  refine ⟨by intro e; rw [e] at hlen; simp at hlen, by omega, hok, hdR, ?_, fun k => ?_⟩
  · unfold docC
    have hlast : ks.doc[(num32 ks.doc - 1).toNat]? = some 0 := by
      rw [n1, show ((ks.body.length : Int) + 5 - 1).toNat = ks.body.length + 4 by omega]
      unfold Ks.doc
      rw [List.getElem?_append_right (by simp [le32_length]), List.getElem?_append_right (by simp [le32_length])]
      simp [le32_length]
    rw [if_neg (by rw [hok]; simp), if_neg (by rw [n1, hlen]; omega), if_neg (by rw [n1]; omega), if_neg (by rw [hlast]; simp), if_neg (by rw [hdR]; simp)]
    rw [hn, n2, e2]
    rfl
  · unfold atR
    rw [if_pos hok, hn, n2]
    exact e3 k
end Go.Proofs.YtdnfnobgeddbfaaDoor.Abs
