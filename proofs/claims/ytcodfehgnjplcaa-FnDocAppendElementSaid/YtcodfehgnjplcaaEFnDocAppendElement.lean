/- What the law's function FnDocAppendElement computes. -/
import Derived.Test.YtcodfehgnjplcaaTR5
import Derived.Test.YtcodfehgnjplcaaEDoc5
import Derived.Test.YtcodfehgnjplcaaTR6
import Derived.Test.YtcodfehgnjplcaaENest2
namespace Go.Proofs.Ytcodfehgnjplcaa.Abs
set_option linter.all false
open Go.Proofs
set_option linter.unusedVariables false
set_option linter.unusedSimpArgs false
set_option maxRecDepth 100000
set_option maxHeartbeats 8000000

theorem c_zzFits1 (v : Tr) : ∃ b, ∀ hE : H, callω fns 4 [.agg (v.cells 5 31)] hE = some (.bool b, hE) := by
  cases v with
  | mk k t m n bi hi bb kn ks =>
  by_cases h1 : 2147483647 < (t.length : Int)
  · refine ⟨false, fun hE => run4 (Nat.le_of_ble_eq_true rfl) ?_⟩; simp [Tr.cells, h1]
  by_cases h2 : 2147483647 < (m.length : Int)
  · refine ⟨false, fun hE => run4 (Nat.le_of_ble_eq_true rfl) ?_⟩; simp [Tr.cells, h1, h2]
  by_cases h3 : 2147483647 < ((bl bb).length : Int)
  · refine ⟨false, fun hE => run4 (Nat.le_of_ble_eq_true rfl) ?_⟩; simp [Tr.cells, h1, h2, h3]
  by_cases h4 : 2147483647 < (ks.len : Int)
  · refine ⟨false, fun hE => run4 (Nat.le_of_ble_eq_true rfl) ?_⟩; simp [Tr.cells, h1, h2, h3, h4]
  refine ⟨true, fun hE => run4 (Nat.le_of_ble_eq_true rfl) ?_⟩; simp [Tr.cells, h1, h2, h3, h4]

theorem c_AppendElement (o : Option (List UInt8)) (v : Tr) (d : Nat) (hW : v.wf) (hR : v.right d = true) (nm : List UInt8) (hp : plainL nm = true) (hs : (bl o).length + nm.length + v.sz ≤ 899999000) : ∀ hE : H,
    callω fns 10 [bAV 5 o, .str nm, .agg (v.cells 5 31)] hE = some ((BS.mk (bl o ++ elemL nm v)).av 5, hE) := by
  intro hE
  have ho := c_own o (by omega)
  have he := c_element v d hW hR nm hp (BS.mk (bl o)) (by rw [BS.l_mk]; exact hs)
  rw [BS.mk_app] at he
  refine run10 (Nat.le_of_ble_eq_true rfl) ?_
  generalize bl o ++ elemL nm v = V at *
  clear hR hW hs
  cases v with
  | mk k t m n bi hi bb kn ks =>
  simp only [Tr.cells] at he ⊢
  simp [ho, he]
theorem c_AppendNested (o : Option (List UInt8)) (v : Tr) (d : Nat) (hW : v.wf) (hR : v.right d = true) (nm : List UInt8) (hp : plainL nm = true) (hs : (bl o).length + nm.length + v.sz ≤ 899999000) : ∀ hE : H,
    callω fns 8 [bAV 5 o, .str nm, .agg (v.cells 5 31)] hE = some (.tup [(BS.mk (bl o ++ elemL nm v)).av 5, .bool true], hE) := by
  intro hE
  have ho := c_own o (by omega)
  have hfr : (BS.mk (bl o)).fr := by
    cases bl o with
    | nil => exact .inl rfl
    | cons a r => exact .inr ⟨_, rfl⟩
  have he := c_nested v d hW hR nm hp (BS.mk (bl o)) hfr (by rw [BS.l_mk]; exact hs)
  rw [BS.mk_app] at he
  refine run8 (Nat.le_of_ble_eq_true rfl) ?_
  generalize bl o ++ elemL nm v = V at *
  clear hR hW hs
  cases v with
  | mk k t m n bi hi bb kn ks =>
  simp only [Tr.cells] at he ⊢
  simp [ho, he, ex2_0, ex2_1]
theorem c_docRaw (v : Tr) (hW : v.wf) (hs : v.sz ≤ 1073740000) : ∀ hE : H, callω fns 12 [.agg (v.cells 5 31)] hE = some (.agg [.int .i64 v.kind, bAV 5 (BS.mk v.val).opt], hE) := by
  intro hE
  have hv := c_DocValue v hW hs
  generalize hV : v.val = V at *
  clear hW hs hV
  refine run12 (Nat.le_of_ble_eq_true rfl) ?_
  cases v with
  | mk k t m n bi hi bb kn ks =>
  simp only [Tr.cells, Tr.kind] at hv ⊢
  simp [hv]
theorem c_core (k : Int) (h0 : 0 ≤ k) (h1 : k < 256) (o : Option (List UInt8)) : ∀ hE : H, callω fns 22 [.agg [.int .i64 k, bAV 5 o]] hE = some (.agg [.int .u8 k, bAV 5 o], hE) := by
  intro hE
  have w : IntKind.u8.wrap k = k := by simp [IntKind.wrap, IntKind.signed, IntKind.bits]; omega
  refine run22 (Nat.le_of_ble_eq_true rfl) ?_
  simp [w]
theorem c_coreAVE (b : BS) (nm : List UInt8) (hp : plainL nm = true) (k : Int) (h0 : 0 ≤ k) (h1 : k < 256) (o : Option (List UInt8)) (hs : b.l.length + nm.length + (bl o).length ≤ 1000000000) : ∀ hE : H,
    callω fns 21 [b.av 5, .str nm, .agg [.int .u8 k, bAV 5 o]] hE = some ((b.app (hdL k nm ++ bl o)).av 5, hE) := by
  intro hE
  have ha := c_AppendHeader b k nm hp h0 h1 (by omega)
  have h2 : ∀ hp : H, apV hp 5 1 1 false ((b.app (hdL k nm)).av 5) (bAV 5 o) = some ((b.app (hdL k nm ++ bl o)).av 5) := fun hp => by
    have := apV_b (hp := hp) (e := 5) (b := b.app (hdL k nm)) (o := o) (by rw [BS.l_app, List.length_append, hdL_length]; simp [tooLong]; omega)
    rwa [BS.app_app] at this
  generalize b.app (hdL k nm ++ bl o) = R at *
  generalize b.app (hdL k nm) = B at *
  refine run21 (Nat.le_of_ble_eq_true rfl) ?_
  simp [ha, h2]
theorem c_implAVE (o : Option (List UInt8)) (nm : List UInt8) (hp : plainL nm = true) (k : Int) (h0 : 0 ≤ k) (h1 : k < 256) (x : Option (List UInt8)) (hs : (bl o).length + nm.length + (bl x).length ≤ 1000000000) : ∀ hE : H,
    callω fns 11 [bAV 5 o, .str nm, .agg [.int .i64 k, bAV 5 x]] hE = some ((BS.mk (bl o ++ (hdL k nm ++ bl x))).av 5, hE) := by
  intro hE
  have ho := c_own o (by omega)
  have hc := c_core k h0 h1 x
  have ha := c_coreAVE (BS.mk (bl o)) nm hp k h0 h1 x (by rw [BS.l_mk]; exact hs)
  rw [BS.mk_app] at ha
  refine run11 (Nat.le_of_ble_eq_true rfl) ?_
  generalize bl o ++ (hdL k nm ++ bl x) = R at *
  simp [ho, hc, ha]
theorem kind_right {v : Tr} {d : Nat} (h : v.right d = true) : 0 ≤ v.kind ∧ v.kind < 256 := by
  cases v with
  | mk k t m n bi hi bb kn ks =>
  simp only [Tr.right, Bool.and_eq_true] at h
  have := known_cases h.1
  simp only [Tr.kind]; omega

theorem law_FnDocAppendElement (o : Option (List UInt8)) (ho : (bl o).length ≤ reachBytes) (nm : List UInt8) (hn : nm.length ≤ reachBytes) (v : Tr) (hW : v.wf) (h : H) :
    CW fns 3 [bAV 5 o, .str nm, .agg (v.cells 5 31)] h fun q => q.1 = .bool true := by
  refine (runs3 (Nat.le_of_ble_eq_true rfl) ?_)
  obtain ⟨bz, hz⟩ := c_zzFits1 v
  have hP := fun hl => c_DocPlain nm hl
  have hF := c_docFine v hW
  have hfs := fun hf => fine_sz (v := v) (c := 300) (b := 5000) (by omega) hW hf
  have hDE := fun hs1 hs2 => c_DocElem_of nm (c_DocValue v hW hs1) hs2
  have hC := fun hl => c_docCopy o hl
  have hAE := fun hR hp hs => c_AppendElement (some (bl o)) v 200 hW hR nm hp hs
  have hAN := fun hR hp hs => c_AppendNested (some (bl o)) v 200 hW hR nm hp hs
  have hRw := fun hs => c_docRaw v hW hs
  have hAV := fun hp h0 h1 hs => c_implAVE (some (bl o)) nm hp v.kind h0 h1 (BS.mk v.val).opt hs
  have hkr := fun hR => kind_right (v := v) (d := 200) hR
  have hvl := Tr.val_le v
  have hel : hdL v.kind nm ++ bl (BS.mk v.val).opt = elemL nm v := by rw [BS.bl_opt, BS.l_mk]; rfl
  rw [hel] at hAV
  have hvl2 : (bl (BS.mk v.val).opt).length = v.val.length := by rw [BS.bl_opt, BS.l_mk]
  rw [hvl2] at hAV
  have hell : (elemL nm v).length = nm.length + 2 + v.val.length := by simp [elemL, hdL_length]
  have hsz : v.sz = v.nb + 18 * v.nodes := rfl
  generalize hfE : v.fine 300 5000 = F at *
  generalize hrE : v.right 200 = R at *
  generalize hEl : elemL nm v = EL at *
  generalize v.val = VL at *
  generalize v.sz = SZ at *
  generalize v.nb = NB at *
  generalize v.nodes = ND at *
  generalize v.kind = K at *
  clear hfE hrE hEl hW
  simp only [bl_some] at hAE hAN hAV
  cases v with
  | mk k t m n bi hi bb kn ks =>
  simp only [Tr.cells] at *
  by_cases a1 : 2147483647 < ((bl o).length : Int)
  · simp [a1]
  by_cases a2 : 2147483647 < (nm.length : Int)
  · simp [a1, a2]
  cases bz
  · simp [a1, a2, hz]
  by_cases a4 : 1000 < ((bl o).length : Int)
  · simp [a1, a2, hz, a4]
  by_cases a5 : 200 < (nm.length : Int)
  · simp [a1, a2, hz, a4, a5]
  have hP := hP (by simp only [maxLen]; omega)
  cases hp : plainL nm
  · rw [hp] at hP; simp [a1, a2, hz, a4, a5, hP]
  rw [hp] at hP
  cases F
  · simp [a1, a2, hz, a4, a5, hP, hF]
  obtain ⟨f1, f2, f3, f4⟩ := hfs rfl
  have hDE := hDE (by omega) (by omega)
  have hC := hC (by omega)
  have hAE := hAE f2 hp (by omega)
  have hAN := hAN f2 hp (by omega)
  have hRw := hRw (by omega)
  have hAV := hAV hp (hkr f2).1 (hkr f2).2 (by omega)
  have m1 : (bl o).length + EL.length ≤ maxLen := by simp only [maxLen]; omega
  clear hkr hvl hell hvl2 hsz
  simp [a1, a2, hz, a4, a5, hP, hF, hDE, hC, BS.opt_own, hAE, hAN, hRw, hAV, m1, ex2_0, ex2_1]
end Go.Proofs.Ytcodfehgnjplcaa.Abs
