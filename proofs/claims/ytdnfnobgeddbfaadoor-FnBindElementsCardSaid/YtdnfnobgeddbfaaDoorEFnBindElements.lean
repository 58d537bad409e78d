/- What the law's function FnBindElements computes. -/
import Derived.Test.YtdnfnobgeddbfaaDoorEBind
namespace Go.Proofs.YtdnfnobgeddbfaaDoor.Abs
set_option linter.all false
open Go.Proofs
set_option linter.unusedVariables false
set_option linter.unusedSimpArgs false
set_option maxRecDepth 100000
set_option maxHeartbeats 8000000

theorem Ks.elems_at (pre r : Ks) (nm : List UInt8) (v : Tr) : (pre.app (.cons nm v r)).elems[pre.len]? = some (elemL nm v) := by
  rw [Ks.elems_app, List.getElem?_append_right (by simp)]
  simp [Ks.elems]
theorem Ks.elems_ne {ks : Ks} : ∀ e ∈ ks.elems, e ≠ [] := by
  induction ks using Ks.rec (motive_1 := fun _ => True) with
  | mk => trivial
  | nil => intro e h; simp [Ks.elems] at h
  | cons nm v r _ ih =>
    intro e h
    simp only [Ks.elems, List.mem_cons] at h
    rcases h with rfl | h
    · simp [elemL, hdL]
    · exact ih e h
theorem u64_small (n : Nat) (h : n < 18446744073709551616) : (IntKind.u64.wrap (n : Int)).toNat = n := by simp [IntKind.wrap, IntKind.signed, IntKind.bits]; omega
theorem BS.mk_ne3 {l : List UInt8} (h : l ≠ []) : BS.mk l = .own true l := by cases l <;> first | exact absurd rfl h | rfl

theorem l_FnBindElements {K : Ks} {kn : Bool} {k : Int} {t m : List UInt8} {n0 bi hi : Int} {bb : Option (List UInt8)} {s : Nat → Nat × Nat} (hsz : K.sz ≤ 90000) (hgood : K.good) (hL : K.len ≤ reachBytes) :
    ∀ (r pre : Ks) (st : St) (B : BS) (L M : RS), K = pre.app r → r.wf → r.good → r.sz ≤ 90000 → Sens st.h.Γ s → st.s 1 = .ptr (.loc 1) 0 → st.b 1 = some (.cells [.int .i64 k, .str t, .str m, .int .i64 n0, .int .u64 bi, .int .u64 hi, bAV 5 bb, Ks.av 5 53 K kn]) → st.s 3 = B.av 5 → B.opt = some K.doc → st.s 5 = L.av 23 1 → L.l = rowsC 5 K.elems → st.s 7 = M.av 29 2 → M.l = rawsC 5 K.elems → st.s 9 = .int .i64 pre.len →
    ∀ Q : Ex × St → Prop, (∀ (st' : St) (B' : BS) (L' : RS), st'.h = st.h → st'.s 3 = B'.av 5 → B'.opt = some K.doc → st'.s 5 = L'.av 23 1 → L'.l = rowsC 5 K.elems → Q (.exit 0, st')) → LoopR fns lc5_0 st Q
  | .nil, pre, st, B, L, M, hK, hW, hG, hr, hS, h1, hb, h3, hB, h5, hLl, h7, hM, h9, Q, hA => by
    refine loopω_run fns ?_
    have hlen : K.elems.length = pre.len := by rw [Ks.elems_length, hK, Ks.len_app]; simp [Ks.len]
    have hn : aLen false (L.lv 23 1) = some (.int .i64 K.elems.length) := RS.lv_len (by omega) (by rw [hLl]; simp)
    rw [hlen] at hn
    simp [h5, h9, hn]
    refine hA _ B L ?_ ?_ hB ?_ hLl <;> simp [h3, h5]
  | .cons nm v r, pre, st, B, L, M, hK, hW, hG, hr, hS, h1, hb, h3, hB, h5, hLl, h7, hM, h9, Q, hA => by
    refine loopω_run fns ?_
    obtain ⟨hp, ⟨dd, hR⟩, hGr⟩ := hG
    rw [Ks.sz_cons] at hr
    obtain ⟨d1, d2, d3, d4, d5, d6⟩ := doc_facts hsz hgood
    have hlenK : K.len = pre.len + (r.len + 1) := by rw [hK, Ks.len_app]; simp [Ks.len]
    have hlen : K.elems.length = pre.len + (r.len + 1) := by rw [Ks.elems_length]; exact hlenK
    have hlt : (pre.len : Int) < pre.len + (r.len + 1) := by omega
    have hn : aLen false (L.lv 23 1) = some (.int .i64 K.elems.length) := RS.lv_len (by omega) (by rw [hLl]; simp)
    rw [hlen] at hn
    have hix := Ks.av_ix 5 53 pre r nm v kn
    rw [← hK] at hix
    have hE := c_DocElem_of nm (c_DocValue v hW.2.1 (by omega)) (by omega)
    have hel := elemL_length nm v
    have hne : elemL nm v ≠ [] := by simp [elemL, hdL]
    have hat : atR K.doc pre.len = (0, elemL nm v) := by
      rw [d6, hK, Ks.elems_at]
    have hatE : atE K.doc pre.len = some (elemL nm v) := by simp [atE, hat]
    have hatC : atC K.doc pre.len = 0 := by simp [atC, hat]
    have hsp : pre.len < 18446744073709551616 := by simp only [reachBytes] at hL; omega
    have hvl := Tr.val_le v
    have hvs : v.sz = v.nb + 18 * v.nodes := rfl
    have hI := c_impIndex K.doc d2 pre.len (s := s) (hE := st.h.mask) hS (by rw [u64_small _ hsp, hatE]; simp only [bl]; omega)
    rw [u64_small _ hsp, hatE, hatC] at hI
    simp only [bl] at hI
    rw [BS.mk_ne3 hne] at hI hE
    have hx1 := RS.fv_at' (e := 23) (b := L) (k := pre.len) (pre := rowsC 5 pre.elems) (r := rowsC 5 r.elems) (x := bAV 5 (some (elemL nm v))) (by rw [hLl, hK, Ks.elems_app, rowsC_append]; rfl) (by simp)
    have hx2 := RS.fv_at2 (e := 29) (b := M) (k := pre.len) (m := K.elems.length) (pre := rawsC 5 pre.elems) (r := rawsC 5 (elemL nm v :: r.elems)) (by rw [hM, hK, Ks.elems_app, rawsC_append]; rfl) (by simp) (by rw [hM]; simp) (by omega)
    rw [rawsC_cons, kv_elem hp hR] at hx2
    have hbr := c_BindRaw v hW.2.1 (by omega)
    have hbs := c_BindSame v.kind v.kind (oB v.val) (oB v.val)
    have hw2 : IntKind.i64.wrap ((pre.len : Int) + 1) = pre.len + 1 := by simp only [reachBytes] at hL; exact wrap_i64 (by omega) (by omega)
    have hBl : bl B.opt = K.doc := by rw [hB]; rfl
    have hc9 : (AV.str nm :: Tr.cells 5 53 v).length = 9 := by simp
    have hshB : B.sh.opt = some K.doc := by cases B <;> simpa using hB
    simp only [List.cons_append, List.nil_append] at hx2
    have hol : (BS.own true (elemL nm v)).l = elemL nm v := rfl
    simp [h1, h3, h5, h7, h9, hb, hn, hlt, hB, hix, take8, len8, hE, hI, hx1, hx2, hbr, hbs, hw2, hshB, hol, ex2_0, ex2_1]
    refine l_FnBindElements (kn := kn) (k := k) (t := t) (m := m) (n0 := n0) (bi := bi) (hi := hi) (bb := bb) (s := s) hsz hgood hL r (pre.app (.cons nm v .nil)) _ B.sh L.sh M.sh ?_ hW.2.2 hGr (by omega) ?_ ?_ ?_ ?_ ?_ ?_ ?_ ?_ ?_ ?_ Q (fun st' B' L' k1 => hA st' B' L' ?_)
    · rw [hK, Ks.app_assoc]; rfl
    · exact hS
    · simp [h1]
    · simp [hb]
    · simp [h3]
    · exact hshB
    · simp [h5]
    · simpa using hLl
    · simp [h7]
    · simpa using hM
    · simp [Ks.len_app, Ks.len]
    · rw [k1]

theorem law_FnBindElements (v : Tr) (hW : v.wf) (h : H) {s : Nat → Nat × Nat} (hS : Sens h.Γ s) : CW fns 5 [.agg (v.cells 5 53)] h fun q => q.1 = .bool true := by
  refine (runs5 (Nat.le_of_ble_eq_true rfl) ?_)
  obtain ⟨bz, hz⟩ := c_zzFits1 v
  cases v with
  | mk k t m n bi hi bb kn ks =>
  have hD := c_bindDoc k t m n bi hi bb kn ks hW
  have hF := fun h => docOk_facts (k := k) (t := t) (m := m) (n := n) (bi := bi) (hi := hi) (bb := bb) (kn := kn) (ks := ks) hW h
  generalize docOk (.mk k t m n bi hi bb kn ks) = F at *
  simp only [Tr.cells] at *
  cases bz
  · simp [hz]
  cases F
  · simp only [Bool.false_eq_true, if_false] at hD
    simp [hz, hD, ex2_0, ex2_1]
  obtain ⟨f1, f2, f3, f4⟩ := hF rfl
  obtain ⟨d1, d2, d3, d4, d5, d6⟩ := doc_facts f1 f2
  simp only [if_true] at hD
  rw [BS.mk_ne3 d1] at hD
  have e1 := c_impElems ks.doc d1 d2
  have e2 := c_impVals ks.doc d2
  have e3 := c_RawValidate ks.doc d2
  have hv1 : valsOf ks.doc = ks.elems := by unfold valsOf; rw [d3, d4]; rfl
  have hv2 : valsGood ks.doc = true := by unfold valsGood; rw [d3, d4]; rfl
  rw [hv1, hv2] at e2
  rw [d5] at e3
  rw [d3, d4] at e1
  simp only [and_self, if_true] at e1
  have hL1 : (RS.mk (rowsC 5 ks.elems)).l = rowsC 5 ks.elems := RS.l_mk _
  have hL2 : (RS.mk (rawsC 5 ks.elems)).l = rawsC 5 ks.elems := RS.l_mk _
  have n1 : aLen false ((RS.mk (rowsC 5 ks.elems)).lv 23 1) = some (.int .i64 ks.len) := RS.lv_len (by omega) (by rw [hL1]; simp)
  have n2 : aLen false ((RS.mk (rawsC 5 ks.elems)).lv 29 2) = some (.int .i64 ks.len) := RS.lv_len (by omega) (by rw [hL2]; simp)
  generalize RS.mk (rowsC 5 ks.elems) = L at *
  generalize RS.mk (rawsC 5 ks.elems) = M at *
  have ho1 : (BS.own true ks.doc).opt = some ks.doc := rfl
  have ho2 : (BS.own true ks.doc).sh.opt = some ks.doc := rfl
  simp [hz, hD, e1, e2, e3, n1, n2, ex2_0, ex2_1, ho1, ho2]
  refine l_FnBindElements (K := ks) (kn := kn) (k := k) (t := t) (m := m) (n0 := n) (bi := bi) (hi := hi) (bb := bb) (s := s) f1 f2 f4 ks .nil _ (BS.own true ks.doc).sh L M (by rfl) f3 f2 f1 ?_ ?_ ?_ ?_ ?_ ?_ hL1 ?_ hL2 ?_ _ (fun st' B' L' k1 k3 k4 k5 k6 => ?_)
  · exact hS
  · simp
  · simp
  · simp; rfl
  · rfl
  · simp
  · simp
  · simp [Ks.len]
  · have hn : aLen false (L'.lv 23 1) = some (.int .i64 ks.elems.length) := RS.lv_len (by omega) (by rw [k6]; simp)
    have hsp : ks.elems.length < 18446744073709551616 := by rw [Ks.elems_length]; simp only [reachBytes] at f4; omega
    have hat : atR ks.doc ks.elems.length = (2, []) := by rw [d6, List.getElem?_eq_none (Nat.le_refl _)]
    have hatE : atE ks.doc ks.elems.length = none := by unfold atE; rw [hat]; rfl
    have hatC : atC ks.doc ks.elems.length = 7 := by unfold atC; rw [hat]; rfl
    have hI := c_impIndex ks.doc d2 ks.elems.length (s := s) (hE := st'.h.mask) (by rw [k1]; exact hS) (by rw [u64_small _ hsp, hatE]; simp [bl])
    rw [u64_small _ hsp, hatE, hatC] at hI
    have e0 : (BS.mk (bl none)).av 5 = AV.slice .nil 0 1 [] := rfl
    rw [e0, Ks.elems_length] at hI
    rw [Ks.elems_length] at hn
    simp [k3, k4, k5, hn, hI, ex2_0, ex2_1]
end Go.Proofs.YtdnfnobgeddbfaaDoor.Abs
