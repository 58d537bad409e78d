/- What the law's function FnBindValue computes. -/
import Derived.Test.YtdnfnobgeddbfaaDoorTR5
import Derived.Test.YtdnfnobgeddbfaaDoorTR6
import Derived.Test.YtdnfnobgeddbfaaDoorEBindVal
namespace Go.Proofs.YtdnfnobgeddbfaaDoor.Abs
set_option linter.all false
open Go.Proofs
set_option linter.unusedVariables false
set_option linter.unusedSimpArgs false
set_option maxRecDepth 100000
set_option maxHeartbeats 8000000

theorem BS.mk_ne {l : List UInt8} (h : l ≠ []) : BS.mk l = .own true l := by cases l <;> first | exact absurd rfl h | rfl
theorem sl_n {hp : H} {e : Nat} : slSl hp 1 (bAV e none) (some 0) (some 0) = some (bAV e none) := by simp [slSl, bAV]
theorem c_readValue (v : Tr) {dd : Nat} (hR : v.right dd = true) (hs : v.sz ≤ 1000000000) (o : Option (List UInt8)) (c : Nat) (hc : c ≤ v.val.length) (ho : bl o = v.val.take c) :
    ∃ x y, ∀ hE : H, callω fns 69 [bAV 5 o, .int .u8 v.kind] hE = some (.tup [bAV 5 x, bAV 5 y, .bool (decide (c = v.val.length))], hE) := by
  obtain ⟨n, ok, h, h0, hn⟩ := c_valueLength v hR hs o c hc ho
  have hlen : (bl o).length = c := by rw [ho, List.length_take]; omega
  have w : IntKind.i64.wrap n = n := wrap_i64 (by omega) (by omega)
  generalize v.val.length = VL at *
  generalize v.kind = K at *
  by_cases hf : c = VL
  · obtain ⟨rfl, hle⟩ := hn.2 hf
    subst hf
    have g : ¬ ((c : Int) < n) := by omega
    cases o with
    | none =>
      have hc0 : c = 0 := by simpa [bl] using hlen.symm
      subst hc0
      have hn0 : n = 0 := by omega
      subst hn0
      refine ⟨none, none, fun hE => ?_⟩
      have w0 : IntKind.i64.wrap 0 = 0 := rfl
      refine run69 (Nat.le_of_ble_eq_true rfl) ?_
      have e0 : AV.slice .nil 0 1 [] = bAV 5 none := rfl
      simp [h, w0, sl_n, ex3_0, ex3_1, ex3_2, ex2_0, ex2_1, bl]
    | some l =>
      simp only [bl] at hlen
      subst hlen
      have s1 : ∀ hp : H, slSl hp 1 (bAV 5 (some l)) (some 0) (some n) = some (bAV 5 (some ((l.drop (0 : Int).toNat).take (n.toNat - (0 : Int).toNat)))) := fun hp => sl_b (by omega) (by omega) (by omega)
      have s2 : ∀ hp : H, slSl hp 1 (bAV 5 (some l)) (some n) (some (l.length : Int)) = some (bAV 5 (some ((l.drop n.toNat).take ((l.length : Int).toNat - n.toNat)))) := fun hp => sl_b (by omega) (by omega) (by omega)
      generalize (some ((l.drop (0 : Int).toNat).take (n.toNat - (0 : Int).toNat)) : Option (List UInt8)) = X at *
      generalize (some ((l.drop n.toNat).take ((l.length : Int).toNat - n.toNat)) : Option (List UInt8)) = Y at *
      refine ⟨X, Y, fun hE => ?_⟩
      refine run69 (Nat.le_of_ble_eq_true rfl) ?_
      simp [h, w, g, s1, s2, ex2_0, ex2_1, bl]
  · refine ⟨none, o, fun hE => ?_⟩
    have e0 : bAV 5 none = AV.slice .nil 0 1 [] := rfl
    rw [e0]
    simp only [hf, decide_false]
    cases ok with
    | false =>
      refine run69 (Nat.le_of_ble_eq_true rfl) ?_
      simp [h, ex2_0, ex2_1]
    | true =>
      have g : (c : Int) < n := by
        rcases Int.lt_or_le c n with hh | hh
        · exact hh
        · exact absurd (hn.1 ⟨rfl, hh⟩) hf
      refine run69 (Nat.le_of_ble_eq_true rfl) ?_
      simp [h, w, g, hlen, ex2_0, ex2_1]
theorem c_NewIBE (a b : Option (List UInt8)) : ∀ hE : H, callω fns 70 [bAV 5 a, bAV 5 b] hE = some (.agg [bAV 5 a, bAV 5 b], hE) := by
  intro hE
  refine run70 (Nat.le_of_ble_eq_true rfl) ?_
  simp
theorem c_CoreValidate (v : Tr) {dd : Nat} (hR : v.right dd = true) (hs : v.sz ≤ 1000000000) (o : Option (List UInt8)) (c : Nat) (hc : c ≤ v.val.length) (ho : bl o = v.val.take c) :
    ∀ hE : H, callω fns 54 [.agg [.int .u8 v.kind, bAV 5 o]] hE = some (if c = v.val.length then .nilI else .iface 100 (.agg [bAV 5 o, bAV 5 o]), hE) := by
  intro hE
  obtain ⟨x, y, h⟩ := c_readValue v hR hs o c hc ho
  have e := c_NewIBE o o
  generalize v.kind = K at *
  refine run54 (Nat.le_of_ble_eq_true rfl) ?_
  have hm : mkI 100 (.agg [bAV 5 o, bAV 5 o]) = some (.iface 100 (.agg [bAV 5 o, bAV 5 o])) := by cases o <;> rfl
  by_cases hf : c = v.val.length
  · simp only [hf, decide_true, if_true] at h ⊢
    simp [h, ex3_0, ex3_1, ex3_2]
  · simp only [hf, decide_false, if_false] at h ⊢
    simp [h, ex3_0, ex3_1, ex3_2, e, hm]
theorem c_some (k : Int) (h0 : 0 ≤ k) (h1 : k < 256) (o : Option (List UInt8)) : ∀ hE : H, callω fns 32 [.agg [.int .i64 k, bAV 5 o]] hE = some (.agg [.int .u8 k, bAV 5 o], hE) := by
  intro hE
  have w : IntKind.u8.wrap k = k := by simp [IntKind.wrap, IntKind.signed, IntKind.bits]; omega
  refine run32 (Nat.le_of_ble_eq_true rfl) ?_
  simp [w]
theorem c_conv (k : Int) (o : Option (List UInt8)) : ∀ hE : H, callω fns 53 [.agg [.int .u8 k, bAV 5 o]] hE = some (.agg [.int .u8 k, bAV 5 o], hE) := by
  intro hE
  refine run53 (Nat.le_of_ble_eq_true rfl) ?_
  simp
theorem c_code_nil : ∀ hE : H, callω fns 31 [.nilI] hE = some (.int .i64 0, hE) := by
  intro hE
  refine run31 (Nat.le_of_ble_eq_true rfl) ?_
  simp
theorem c_code_ibe (a b : Option (List UInt8)) : ∀ hE : H, callω fns 31 [.iface 100 (.agg [bAV 5 a, bAV 5 b])] hE = some (.int .i64 1, hE) := by
  intro hE
  refine run31 (Nat.le_of_ble_eq_true rfl) ?_
  simp [taOk, exV]
theorem kind_right {v : Tr} {d : Nat} (h : v.right d = true) : 0 ≤ v.kind ∧ v.kind < 256 := by
  cases v with
  | mk k t m n bi hi bb kn ks =>
  simp only [Tr.right, Bool.and_eq_true] at h
  have := known_kinds h.1
  simp only [Tr.kind]; omega
theorem c_RawValidate (v : Tr) {dd : Nat} (hR : v.right dd = true) (hs : v.sz ≤ 1000000000) (o : Option (List UInt8)) (c : Nat) (hc : c ≤ v.val.length) (ho : bl o = v.val.take c) :
    ∀ hE : H, callω fns 10 [.agg [.int .i64 v.kind, bAV 5 o]] hE = some (.int .i64 (if c = v.val.length then 0 else 1), hE) := by
  intro hE
  have hk := kind_right hR
  have h1 := c_some v.kind hk.1 hk.2 o
  have h2 := c_conv v.kind o
  have h3 := c_CoreValidate v hR hs o c hc ho
  have h4 := c_code_nil
  have h5 := c_code_ibe o o
  have h6 : ∀ hE : H, callω fns 33 [.agg [.int .u8 v.kind, bAV 5 o]] hE = some (if c = v.val.length then .nilI else .iface 100 (.agg [bAV 5 o, bAV 5 o]), hE) := by
    intro hE
    generalize v.kind = K at *
    refine run33 (Nat.le_of_ble_eq_true rfl) ?_
    by_cases hf : c = v.val.length
    · simp [h2, h3, hf]
    · simp [h2, h3, hf]
  generalize v.kind = K at *
  refine run10 (Nat.le_of_ble_eq_true rfl) ?_
  by_cases hf : c = v.val.length
  · simp [h1, h6, h4, hf]
  · simp [h1, h6, h5, hf]
theorem c_bindRight (v : Tr) (hW : v.wf) : ∀ hE : H, callω fns 8 [.agg (v.cells 5 53)] hE = some (.bool (v.fine 1000 65536), hE) := by
  intro hE
  refine run8 (Nat.le_of_ble_eq_true rfl) ?_
  have h1 := c_docCount v 1000 hW (by omega) (by omega)
  have h2 := c_DocRight v hW
  have h3 := c_docBytes v hW
  unfold Tr.fine
  simp only [Int.cast_ofNat_Int]
  generalize hc : v.count 1000 = c at *
  generalize hr : v.right 200 = cr at *
  generalize hn : IntKind.i64.wrap v.nb = cn at *
  clear hc hr hn
  cases v with
  | mk k t m n bi hi b kn ks =>
  simp only [Tr.cells] at h1 h2 h3 ⊢
  by_cases c3 : c ≤ 1000
  case neg => simp [h1, c3]
  cases cr
  · simp [h1, h2, c3]
  · simp [h1, h2, h3, c3]
theorem c_zzFits1 (v : Tr) : ∃ b, ∀ hE : H, callω fns 7 [.agg (v.cells 5 53)] hE = some (.bool b, hE) := by
  cases v with
  | mk k t m n bi hi bb kn ks =>
  by_cases h1 : 2147483647 < (t.length : Int)
  · refine ⟨false, fun hE => run7 (Nat.le_of_ble_eq_true rfl) ?_⟩; simp [Tr.cells, h1]
  by_cases h2 : 2147483647 < (m.length : Int)
  · refine ⟨false, fun hE => run7 (Nat.le_of_ble_eq_true rfl) ?_⟩; simp [Tr.cells, h1, h2]
  by_cases h3 : 2147483647 < ((bl bb).length : Int)
  · refine ⟨false, fun hE => run7 (Nat.le_of_ble_eq_true rfl) ?_⟩; simp [Tr.cells, h1, h2, h3]
  by_cases h4 : 2147483647 < (ks.len : Int)
  · refine ⟨false, fun hE => run7 (Nat.le_of_ble_eq_true rfl) ?_⟩; simp [Tr.cells, h1, h2, h3, h4]
  refine ⟨true, fun hE => run7 (Nat.le_of_ble_eq_true rfl) ?_⟩; simp [Tr.cells, h1, h2, h3, h4]
theorem c_BindRaw (v : Tr) (hW : v.wf) (hs : v.sz ≤ 1073740000) : ∀ hE : H, callω fns 9 [.agg (v.cells 5 53)] hE = some (.agg [.int .i64 v.kind, bAV 5 (BS.mk v.val).opt], hE) := by
  intro hE
  have hv := c_DocValue v hW hs
  generalize hV : v.val = V at *
  clear hW hs hV
  refine run9 (Nat.le_of_ble_eq_true rfl) ?_
  cases v with
  | mk k t m n bi hi bb kn ks =>
  simp only [Tr.cells, Tr.kind] at hv ⊢
  simp [hv]

theorem law_FnBindValue (v : Tr) (hW : v.wf) (cut : Int) (hc0 : IntKind.i64.min ≤ cut) (hc1 : cut ≤ IntKind.i64.max) (h : H) :
    CW fns 3 [.agg (v.cells 5 53), .int .i64 cut] h fun q => q.1 = .bool true := by
  refine (runs3 (Nat.le_of_ble_eq_true rfl) ?_)
  obtain ⟨bz, hz⟩ := c_zzFits1 v
  have hF := c_bindRight v hW
  have hfs := fun hf => fine_sz (v := v) (c := 1000) (b := 65536) (by omega) hW hf
  have hB := fun hs => c_BindRaw v hW hs
  have hV := fun hR hs o c hc ho => c_RawValidate v (dd := 200) hR hs o c hc ho
  have hvl := Tr.val_le v
  have hsz : v.sz = v.nb + 18 * v.nodes := rfl
  generalize hfE : v.fine 1000 65536 = F at *
  generalize hrE : v.right 200 = R at *
  generalize v.val = VL at *
  generalize v.sz = SZ at *
  generalize v.nb = NB at *
  generalize v.nodes = ND at *
  generalize v.kind = K at *
  clear hfE hrE hW
  cases v with
  | mk k t m n bi hi bb kn ks =>
  simp only [Tr.cells] at *
  cases bz
  · simp [hz]
  cases F
  · simp [hz, hF]
  obtain ⟨f1, f2, f3, f4⟩ := hfs rfl
  have hB := hB (by omega)
  have hA := hV f2 (by omega) (BS.mk VL).opt VL.length (Nat.le_refl _) (by rw [BS.bl_opt, BS.l_mk, List.take_length])
  simp only [if_true] at hA
  have hl : (bl (BS.mk VL).opt).length = VL.length := by rw [BS.bl_opt, BS.l_mk]
  by_cases g1 : cut < 0
  · simp [hz, hF, hB, hA, g1]
  by_cases g2 : (VL.length : Int) ≤ cut
  · simp [hz, hF, hB, hA, g1, hl, g2]
  have hne : VL ≠ [] := by rintro rfl; simp at g2; omega
  have hC := hV f2 (by omega) (some (VL.take cut.toNat)) cut.toNat (by omega) rfl
  have hcn : ¬ cut.toNat = VL.length := by omega
  rw [if_neg hcn] at hC
  rw [BS.mk_ne hne] at hB hA
  have hs : ∀ hp : H, slSl hp 1 (bAV 5 (some VL)) (some 0) (some cut) = some (bAV 5 (some (VL.take cut.toNat))) := fun hp => by
    rw [sl_b (by omega) (by omega) (by omega)]; simp
  simp only [BS.opt] at hB hA
  simp [hz, hF, hB, hA, g1, g2, hs, hC]
end Go.Proofs.YtdnfnobgeddbfaaDoor.Abs
