/- What the law's function FnDocBuild computes. -/
import Derived.Test.YtfamhjnjlgdglaaTR5
import Derived.Test.YtfamhjnjlgdglaaEDoc5
import Derived.Test.YtfamhjnjlgdglaaEDocFine
import Derived.Test.YtfamhjnjlgdglaaEHead
import Derived.Test.YtfamhjnjlgdglaaECopy
namespace Go.Proofs.Ytfamhjnjlgdglaa.Abs
set_option linter.all false
open Go.Proofs
set_option linter.unusedVariables false
set_option linter.unusedSimpArgs false
set_option maxRecDepth 100000
set_option maxHeartbeats 8000000

theorem l_docElems : ∀ (r pre : Ks) (kn : Bool) (st : St) (b : RS), st.s 0 = Ks.av 5 64 (pre.app r) kn → st.s 3 = b.av 22 1 → b.l.length = pre.len → st.s 4 = .int .i64 pre.len →
    (pre.app r).len ≤ 1000000 → r.wf → r.sz ≤ 1073740000 →
    ∀ Q : Ex × St → Prop, (∀ st' : St, st'.h = st.h → st'.s 3 = (b.app (rowsC 5 r.elems)).av 22 1 → Q (.exit 0, st')) → Run (loopω fns lc22_0 st) Q
  | .nil, pre, kn, st, b, h0, h3, hb, h4, hL, hW, hs, Q, hQ => by
    refine loopω_run fns ?_
    rw [Ks.app_nil] at h0
    simp [h0, h3, h4]
    refine hQ _ rfl ?_
    simp [h3, Ks.elems]
    cases b <;> simp [RS.app]
  | .cons nm v r, pre, kn, st, b, h0, h3, hb, h4, hL, hW, hs, Q, hQ => by
    refine loopω_run fns ?_
    have hlt : (pre.len : Int) < ((pre.app (.cons nm v r)).len : Int) := by rw [Ks.len_app]; simp [Ks.len]; omega
    have hL' := hL
    rw [Ks.len_app, Ks.len] at hL'
    have hw2 : IntKind.i64.wrap ((pre.len : Int) + 1) = pre.len + 1 := wrap_i64 (by omega) (by omega)
    have hs' : nm.length + v.nb + r.nb + 18 * (v.nodes + r.nodes) ≤ 1073740000 := by simpa [Ks.sz, Ks.nb, Ks.nodes] using hs
    have hE := c_DocElem_of nm (c_DocValue v hW.2.1 (by unfold Tr.sz; omega)) (by unfold Tr.sz; omega)
    have hne : elemL nm v ≠ [] := by simp [elemL, hdL]
    rw [BS.mk_ne hne] at hE
    have h1 : ∀ hp : H, apV hp 22 1 24 false (b.av 22 1) (.slice (.own true) 22 1 [bAV 5 (BS.own true (elemL nm v)).opt]) = some ((b.app [bAV 5 (some (elemL nm v))]).av 22 1) := fun hp =>
      RS.apV (by rw [hb]; simp [tooLong]; omega) (by rw [hb]; simp [tooLong]; omega)
    simp [h0, h3, h4, hlt, Ks.av_ix, take8, hE, h1, hw2]
    refine l_docElems r (pre.app (.cons nm v .nil)) kn _ (b.app [bAV 5 (some (elemL nm v))]) ?_ ?_ ?_ ?_ (by simpa [Ks.app_assoc, Ks.app] using hL) hW.2.2 (by unfold Ks.sz; omega) Q (fun st' e h => hQ st' e ?_)
    · simp [h0, Ks.app_assoc, Ks.app]
    · simp
    · simp [RS.l_app, hb, Ks.len_app, Ks.len]
    · simp [Ks.len_app, Ks.len]
    · rw [h, RS.app_app]; simp [Ks.elems]
theorem c_docElems {ks : Ks} (kn : Bool) (hL : ks.len ≤ 1000000) (hW : ks.wf) (hs : ks.sz ≤ 1073740000) : ∀ hE : H, callω fns 22 [Ks.av 5 64 ks kn] hE = some ((RS.mk (rowsC 5 ks.elems)).av 22 1, hE) := by
  intro hE
  refine run22 (Nat.le_of_ble_eq_true rfl) ?_
  simp
  refine l_docElems ks .nil kn _ .nil ?_ ?_ ?_ ?_ (by simpa [Ks.app] using hL) hW hs _ fun st' e h3 => ?_
  · simp [Ks.app]
  · simp [RS.av]
  · simp [RS.l, Ks.len]
  · simp [Ks.len]
  rw [RS.nil_app] at h3
  simp [h3, e]

/-- The loop that appends the elements. -/
theorem l_BuildDocument : ∀ (r pre : List (List UInt8)) (st : St) (b : BS) (R : RS), R.l = rowsC 5 (pre ++ r) → st.s 13 = R.fv 22 1 → st.s 14 = .int .i64 ((pre ++ r).length : Nat) → st.s 15 = .int .i64 pre.length → st.s 0 = b.av 5 →
    (pre ++ r).length ≤ 1000000 → b.l.length + r.flatten.length ≤ 1073740000 →
    ∀ Q : Ex × St → Prop, (∀ st' : St, st'.h = st.h → st'.s 5 = st.s 5 → st'.s 0 = (b.app r.flatten).av 5 → Q (.exit 0, st')) → Run (loopω fns lc36_0 st) Q
  | [], pre, st, b, R, hR, h13, h14, h15, h0, hL, hs, Q, hQ => by
    refine loopω_run fns ?_
    simp only [List.append_nil] at h14
    simp [h13, h14, h15]
    refine hQ _ rfl (by simp) ?_
    simp [h0]
    cases b <;> simp [BS.app]
  | x :: r, pre, st, b, R, hR, h13, h14, h15, h0, hL, hs, Q, hQ => by
    refine loopω_run fns ?_
    have hlt : (pre.length : Int) < ((pre ++ x :: r).length : Nat) := by simp; omega
    have hL' := hL
    simp only [List.length_append, List.length_cons] at hL'
    have hw2 : IntKind.i64.wrap ((pre.length : Int) + 1) = pre.length + 1 := wrap_i64 (by omega) (by omega)
    have hix := RS.fv_ix (e := 22) (b := R) (sz := 1) (n := (pre ++ x :: r).length) (k := pre.length) (by omega) (by rw [hR]; simp) (by simp)
    rw [hR, Nat.mul_one, rowsC_drop _ _ _ _ rfl] at hix
    have hs' : b.l.length + (x.length + r.flatten.length) ≤ 1073740000 := by simpa using hs
    have h1 : ∀ hp : H, apV hp 5 1 1 false (b.av 5) (bAV 5 (some x)) = some ((b.app x).av 5) := fun hp => apV_b (o := some x) (by simp [tooLong]; omega)
    simp only [rowsC_cons] at hix
    simp only [List.length_append, List.length_cons, Int.natCast_add, Int.natCast_one] at hlt h14
    simp [h13, h14, h15, h0, hlt, hix, h1, hw2]
    refine l_BuildDocument r (pre ++ [x]) _ (b.app x) R (by simpa using hR) ?_ ?_ ?_ ?_ (by simpa using hL) (by simp [BS.l_app, -List.length_flatten]; omega) Q (fun st' e e5 h => hQ st' e ?_ ?_)
    · simp [h13]
    · simp [h14]
    · simp
    · simp
    · rw [e5]; simp
    · rw [h, BS.app_app]; simp
theorem c_BuildDocument (l : List UInt8) (ls : List (List UInt8)) (R : RS) (hR : R.l = rowsC 5 ls) (hL : ls.length ≤ 1000000) (hs : l.length + ls.flatten.length ≤ 1073000000) (h : H) :
    Val (callω fns 36 [(BS.mk l).av 5, R.fv 22 1] h) ((BS.mk (l ++ (le32 (ls.flatten.length + 5) ++ ls.flatten ++ [0]))).av 5) := by
  have hr := c_ReserveLength (BS.mk l) (by simp; omega)
  rw [BS.mk_app, BS.l_mk] at hr
  have hlen : aLen false (R.fv 22 1) = some (.int .i64 (ls.length : Nat)) := RS.fv_len (by omega) (by rw [hR]; simp)
  have hloop := l_BuildDocument ls []
  obtain ⟨F, hF⟩ : ∃ F, ls.flatten = F := ⟨_, rfl⟩
  rw [hF] at hs hloop ⊢
  have hlen2 : (l ++ [0, 0, 0, 0] ++ F ++ [0]).length = l.length + F.length + 5 := by simp; omega
  have h1 : ∀ hp : H, apV hp 5 1 1 false ((BS.mk (l ++ [0, 0, 0, 0] ++ F)).av 5) (.slice (.own true) 5 1 [.int .u8 0]) = some ((BS.own true (l ++ [0, 0, 0, 0] ++ F ++ [0])).av 5) := fun hp => by
    have := apV_l0 (hp := hp) (e := 5) (f := true) (b := BS.mk (l ++ [0, 0, 0, 0] ++ F)) (by simp [tooLong]; omega)
    rw [BS.mk_app, BS.mk_ne (l := l ++ [0, 0, 0, 0] ++ F ++ [0]) (by simp)] at this; exact this
  obtain ⟨h', hu⟩ := c_UpdateLength h.mask (l ++ [0, 0, 0, 0] ++ F ++ [0]) l.length ((F.length : Int) + 5) (by omega) (by omega) (by omega)
  have hset : setL (l ++ [0, 0, 0, 0] ++ F ++ [0]) l.length (le32 ((F.length : Int) + 5)) = l ++ (le32 ((F.length : Int) + 5) ++ F ++ [0]) := by
    simp [setL, le32_length]
  rw [Int.toNat_natCast, hset] at hu
  have hsl : slSl 1 ((BS.own true (l ++ [0, 0, 0, 0] ++ F ++ [0])).lv 5) (some (l.length : Int)) (some ((l ++ [0, 0, 0, 0] ++ F ++ [0]).length : Int)) = some ((BS.own true ([0, 0, 0, 0] ++ F ++ [0])).lv 5) := by
    simp only [BS.lv, slSl, byteCells_length]
    rw [if_pos ⟨by omega, by rw [hlen2]; omega, by omega, by simp⟩]
    have h2 : (byteCells (l ++ [0, 0, 0, 0] ++ F ++ [0])).drop ((l.length : Int).toNat * 1) = byteCells ([0, 0, 0, 0] ++ F ++ [0]) := by
      rw [← byteCells_drop]; congr 1; simp
    rw [h2, List.take_of_length_le]
    rw [byteCells_length, hlen2]; simp; omega
  have hwl : IntKind.i32.wrap ((([0, 0, 0, 0] ++ F ++ [0] : List UInt8).length : Nat) : Int) = F.length + 5 := by
    simp [IntKind.wrap, IntKind.signed, IntKind.bits]; omega
  have hwi : IntKind.i64.wrap (l.length : Int) = l.length := wrap_i64 (by omega) (by omega)
  have hwi2 : IntKind.i32.wrap (l.length : Int) = l.length := by simp [IntKind.wrap, IntKind.signed, IntKind.bits]; omega
  have hV : BS.mk (l ++ (le32 ((F.length : Int) + 5) ++ F ++ [0])) = BS.own true (l ++ (le32 ((F.length : Int) + 5) ++ F ++ [0])) := BS.mk_ne (by simp)
  rw [hV]
  have hyl : BS.l (BS.own true ([0, 0, 0, 0] ++ F ++ [0])) = [0, 0, 0, 0] ++ F ++ [0] := rfl
  have hxl : BS.l (BS.own true (l ++ [0, 0, 0, 0] ++ F ++ [0])) = l ++ [0, 0, 0, 0] ++ F ++ [0] := rfl
  generalize (l ++ (le32 ((F.length : Int) + 5) ++ F ++ [0])) = V at *
  generalize ([0, 0, 0, 0] ++ F ++ [0] : List UInt8) = Y at *
  generalize l ++ [0, 0, 0, 0] ++ F ++ [0] = X at *
  refine .of (runs36 (Nat.le_of_ble_eq_true rfl) ?_)
  simp [hr, exV, hlen]
  refine hloop _ (BS.mk (l ++ [0, 0, 0, 0])) R (by simpa using hR) ?_ ?_ ?_ ?_ (by simpa using hL) (by simp; omega) _ fun st' e e5 h0 => ?_
  · simp
  · simp
  · simp
  · simp
  simp at e5 e
  rw [BS.mk_app] at h0
  generalize l ++ [0, 0, 0, 0] ++ F = A at *
  simp [h0, e, e5, h1, hwi, hwi2, hxl, hyl, hsl, hwl, hu, noHeap_old]

theorem c_implBuildDocument (o : Option (List UInt8)) (ls : List (List UInt8)) (R : RS) (hR : R.l = rowsC 5 ls) (hL : ls.length ≤ 1000000) (hs : (bl o).length + ls.flatten.length ≤ 1073000000) (h : H) :
    Val (callω fns 24 [bAV 5 o, R.fv 22 1] h) ((BS.mk (bl o ++ (le32 (ls.flatten.length + 5) ++ ls.flatten ++ [0]))).av 5) := by
  have ho := c_own o (by omega)
  obtain ⟨h', hb⟩ := c_BuildDocument (bl o) ls R hR hL hs h.mask
  refine .of (runs24 (Nat.le_of_ble_eq_true rfl) ?_)
  generalize (bl o ++ (le32 (ls.flatten.length + 5) ++ ls.flatten ++ [0])) = V at *
  simp [ho, hb, noHeap_old]
theorem c_BuildDocumentElement (l nm : List UInt8) (hp : plainL nm = true) (ls : List (List UInt8)) (R : RS) (hR : R.l = rowsC 5 ls) (hL : ls.length ≤ 1000000) (hs : l.length + nm.length + ls.flatten.length ≤ 1072000000) (h : H) :
    Val (callω fns 37 [(BS.mk l).av 5, .str nm, R.fv 22 1] h) ((BS.mk (l ++ hdL 3 nm ++ (le32 (ls.flatten.length + 5) ++ ls.flatten ++ [0]))).av 5) := by
  have ho := c_AppendHeader (BS.mk l) 3 nm hp (by omega) (by omega) (by simp; omega)
  rw [BS.mk_app] at ho
  obtain ⟨h', hb⟩ := c_BuildDocument (l ++ hdL 3 nm) ls R hR hL (by simp [hdL_length, -List.length_flatten]; omega) h.mask
  refine .of (runs37 (Nat.le_of_ble_eq_true rfl) ?_)
  generalize (l ++ hdL 3 nm ++ (le32 (ls.flatten.length + 5) ++ ls.flatten ++ [0])) = V at *
  simp [ho, hb, noHeap_old]
theorem c_implBuildDocumentElement (o : Option (List UInt8)) (nm : List UInt8) (hp : plainL nm = true) (ls : List (List UInt8)) (R : RS) (hR : R.l = rowsC 5 ls) (hL : ls.length ≤ 1000000) (hs : (bl o).length + nm.length + ls.flatten.length ≤ 1072000000) (h : H) :
    Val (callω fns 25 [bAV 5 o, .str nm, R.fv 22 1] h) ((BS.mk (bl o ++ hdL 3 nm ++ (le32 (ls.flatten.length + 5) ++ ls.flatten ++ [0]))).av 5) := by
  have ho := c_own o (by omega)
  obtain ⟨h', hb⟩ := c_BuildDocumentElement (bl o) nm hp ls R hR hL hs h.mask
  refine .of (runs25 (Nat.le_of_ble_eq_true rfl) ?_)
  generalize (bl o ++ hdL 3 nm ++ (le32 (ls.flatten.length + 5) ++ ls.flatten ++ [0])) = V at *
  simp [ho, hb, noHeap_old]

theorem law_FnDocBuild (o : Option (List UInt8)) (ho : (bl o).length ≤ reachBytes) (nm : List UInt8) (hn : nm.length ≤ reachBytes) (ks : Ks) (kn : Bool) (hl : ks.len ≤ reachBytes) (hW : ks.wf) (h : H) :
    ∃ h', callω fns 7 [bAV 5 o, .str nm, Ks.av 5 64 ks kn] h = some (.bool true, h') := by
  refine Val.of (runs7 (Nat.le_of_ble_eq_true rfl) ?_)
  by_cases a1 : 2147483647 < ((bl o).length : Int)
  · simp [a1]
  by_cases a2 : 2147483647 < (nm.length : Int)
  · simp [a1, a2]
  by_cases a3 : 2147483647 < (ks.len : Int)
  · simp [a1, a2, a3]
  by_cases a4 : 1000 < ((bl o).length : Int)
  · simp [a1, a2, a3, a4]
  by_cases a5 : 200 < (nm.length : Int)
  · simp [a1, a2, a3, a4, a5]
  have hP := c_DocPlain nm (by simp only [maxLen]; omega)
  cases hp : plainL nm
  · rw [hp] at hP; simp [a1, a2, a3, a4, a5, hP]
  rw [hp] at hP
  have hF := c_docFineKids ks kn hl hW
  cases hf : (ks.tr kn).fine 300 5000
  · rw [hf] at hF; simp [a1, a2, a3, a4, a5, hP, hF]
  rw [hf] at hF
  have hsz := fine_szK hl hW hf
  have hnn : ks.len ≤ 1000000 := by have := Ks.len_le ks; unfold Ks.sz at hsz; omega
  have hE := c_docElems kn hnn hW (by omega)
  have hB := c_DocBytes_of kn (l_DocBytes ks) hl hW (by omega)
  have hH := c_DocHead 3 nm (by omega)
  have hC := c_docCopy o (by omega)
  have hbl := Ks.body_le ks
  have hks : ks.sz = ks.nb + 18 * ks.nodes := rfl
  have hfl : ks.elems.flatten = ks.body := (Ks.body_flat ks).symm
  obtain ⟨h1, hI⟩ := c_implBuildDocument (some (bl o)) ks.elems (RS.mk (rowsC 5 ks.elems)) (by simp) (by simpa using hnn) (by rw [hfl]; simp only [bl_some]; omega) h.mask
  obtain ⟨h2, hJ⟩ := c_implBuildDocumentElement (some (bl o)) nm hp ks.elems (RS.mk (rowsC 5 ks.elems)) (by simp) (by simpa using hnn) (by rw [hfl]; simp only [bl_some]; omega) h.mask
  rw [hfl] at hI hJ
  simp only [bl_some] at hI hJ
  have hd : le32 ((ks.body.length : Int) + 5) ++ ks.body ++ [0] = ks.doc := by simp [Ks.doc]
  rw [hd] at hI hJ
  have hdl := Ks.doc_length ks
  have hsh : (RS.mk (rowsC 5 ks.elems)).sh.l = rowsC 5 ks.elems := by simp
  have m1 : (bl o).length + ks.doc.length ≤ maxLen := by simp only [maxLen]; omega
  have m2 : (bl o).length + (hdL 3 nm).length ≤ maxLen := by simp only [maxLen, hdL_length]; omega
  have m3 : (bl o).length + (hdL 3 nm).length + ks.doc.length ≤ maxLen := by simp only [maxLen, hdL_length]; omega
  generalize ks.doc = D at *
  generalize hdL 3 nm = N at *
  generalize RS.mk (rowsC 5 ks.elems) = R at *
  simp [a1, a2, a3, a4, a5, hP, hF, hE, hB, hH, hC, BS.opt_own, hI, hJ, noHeap_old, m1, m2, m3]
end Go.Proofs.Ytfamhjnjlgdglaa.Abs
