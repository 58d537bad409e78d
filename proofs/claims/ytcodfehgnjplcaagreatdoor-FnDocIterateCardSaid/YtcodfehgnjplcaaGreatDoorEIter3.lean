/- A script over an iterator over the bytes of a right array. -/
import Derived.Test.YtcodfehgnjplcaaGreatDoorEIter2
namespace Go.Proofs.YtcodfehgnjplcaaGreatDoor.Abs
set_option linter.all false
open Go.Proofs
set_option linter.unusedVariables false
set_option linter.unusedSimpArgs false
set_option maxRecDepth 100000
set_option maxHeartbeats 8000000

def rowsO (l : List (List UInt8)) : List AV := l.map fun x => bAV 5 (oB x)
@[simp] theorem rowsO_length (l : List (List UInt8)) : (rowsO l).length = l.length := by simp [rowsO]
theorem rowsO_cons (x : List UInt8) (l : List (List UInt8)) : rowsO (x :: l) = bAV 5 (oB x) :: rowsO l := rfl
theorem l_docsL {c0 c3 c4 c5 c6 c7 c8 c9 c10 c11 cc : AV} {nm : AV} : ∀ (rest pre : List (List UInt8)) (L acc : RS) (st : St), st.s 77 = L.fv 134 1 → L.l = rowsC 5 (pre ++ rest) → st.s 78 = .int .i64 (pre ++ rest).length → st.s 79 = .int .i64 pre.length →
    st.s 9 = .ptr (.loc 9) 0 → st.b 9 = some (.cells [c0, nm, c3, c4, c5, c6, c7, c8, c9, c10, cc, c11, acc.av 22 1]) → (pre ++ rest).length ≤ 100000 → (∀ e ∈ rest, e.length < 2147483648) → acc.l.length ≤ pre.length →
    ∀ Q : Ex × St → Prop, (∀ st' : St, st'.h = st.h → st'.s 5 = st.s 5 → st'.s 6 = st.s 6 → st'.s 19 = st.s 19 → st'.s 20 = st.s 20 → st'.s 21 = st.s 21 → st'.s 9 = .ptr (.loc 9) 0 → st'.b 9 = some (.cells [c0, nm, c3, c4, c5, c6, c7, c8, c9, c10, cc, c11, (acc.app (rowsO rest)).av 22 1]) → Q (.exit 3, st')) → LoopR fns lc34_0 st Q
  | [], pre, L, acc, st, h1, hL, h2, h3, h9, hb, hl, hr, ha, Q, hA => by
    refine loopω_run fns ?_
    simp [h2, h3]
    refine hA _ ?_ ?_ ?_ ?_ ?_ ?_ ?_ ?_ <;> simp [h9, hb, rowsO, RS.app_nil]
  | x :: rest, pre, L, acc, st, h1, hL, h2, h3, h9, hb, hl, hr, ha, Q, hA => by
    refine loopω_run fns ?_
    have hd : (pre.length : Int) < pre.length + (rest.length + 1) := by omega
    have hw : IntKind.i64.wrap ((pre.length : Int) + 1) = pre.length + 1 := wrap_i64 (by omega) (by simp at hl; omega)
    have hx := RS.fv_at' (e := 134) (b := L) (k := pre.length) (pre := rowsC 5 pre) (r := rowsC 5 rest) (x := bAV 5 (some x)) (by rw [hL, rowsC_append]; rfl) (by simp)
    have ho := c_own (some x) (hr x List.mem_cons_self)
    simp only [bl] at ho
    have e1 : (BS.mk x).opt = oB x := rfl
    have hap : ∀ hp : H, apV hp 22 1 24 false (acc.av 22 1) (.slice (.own true) 22 1 [bAV 5 (oB x)]) = some ((acc.app [bAV 5 (oB x)]).av 22 1) := fun hp =>
      RS.apV (by simp only [List.length_singleton, Nat.div_one, tooLong]; simp at hl; omega) (by simp only [List.length_singleton, tooLong]; simp at hl; omega)
    simp [h1, h2, h3, h9, hb, hd, hx, hap, hw, ho, e1]
    refine l_docsL (c0 := c0) (nm := nm) (c3 := c3) (c4 := c4) (c5 := c5) (c6 := c6) (c7 := c7) (c8 := c8) (c9 := c9) (c10 := c10) (cc := cc) (c11 := c11) rest (pre ++ [x]) L (acc.app [bAV 5 (oB x)]) _ ?_ ?_ ?_ ?_ ?_ ?_ ?_ (fun e he => hr e (List.mem_cons_of_mem _ he)) ?_ Q (fun st' k1 k2 k3 k4 k5 k6 k7 k8 => hA st' ?_ ?_ ?_ ?_ ?_ ?_ k7 ?_)
    · simp [h1]
    · rw [hL]; simp
    · simp [h2]
    · simp
    · simp [h9]
    · simp
    · simpa using hl
    · rw [RS.l_app]; simp; omega
    · rw [k1]
    · rw [k2]; simp
    · rw [k3]; simp
    · rw [k4]; simp
    · rw [k5]; simp
    · rw [k6]; simp
    · rw [k8, RS.app_app]; rfl

def docsV (vs : List Tr) : Bool := vs.all fun v => decide (v.kind = 3)
theorem arrK_docs : ∀ (vs : List Tr) (i : Nat), (arrK vs i).docs = docsV vs
  | [], _ => rfl
  | v :: r, i => by simp only [arrK, Ks.docs, arrK_docs r (i + 1)]; rfl
theorem arrK_vals : ∀ (vs : List Tr) (i : Nat), (arrK vs i).vals = vs.map Tr.val
  | [], _ => rfl
  | v :: r, i => by simp only [arrK, Ks.vals, arrK_vals r (i + 1), List.map_cons]
def zV : List AV := [.int .i64 0, .str [], .str [], .int .i64 0, .int .u64 0, .int .u64 0, .slice .nil 0 1 [], .slice .nil 0 1 []]
def stepV (vs : List Tr) (i : Nat) : List AV := match vs[i]? with
  | some v => [.int .i64 v.kind, .str [], .str [], .int .i64 0, .int .u64 0, .int .u64 0, bAV 5 (oB v.val), .slice .nil 0 1 []]
  | none => zV
def stepC (vs : List Tr) (i : Nat) (o : Int) : List AV :=
  if o = 0 then [.int .i64 0, .str []] ++ stepV vs i ++ [.int .i64 (if i < vs.length then 0 else 11), .int .i64 0, .slice .nil 0 1 []]
  else if o = 1 then [.int .i64 1, .str []] ++ zV ++ [.int .i64 0, .int .i64 0, .slice .nil 0 1 []]
  else if o = 2 then [.int .i64 2, .str []] ++ zV ++ [.int .i64 0, .int .i64 vs.length, .slice .nil 0 1 []]
  else if o = 3 then [.int .i64 3, .str []] ++ zV ++ [.int .i64 0, .int .i64 (if vs.length = 0 then 1 else 0), .slice .nil 0 1 []]
  else [.int .i64 4, .str []] ++ zV ++ [.int .i64 (if docsV vs then 0 else 9), .int .i64 0, if docsV vs then (RS.mk (rowsO (vs.map Tr.val))).fv 22 1 else .slice .nil 0 1 []]
def stepA (vs : List Tr) (i : Nat) (o : Int) : Nat := if o = 0 then (if i < vs.length then i + 1 else i) else if o = 1 then 0 else i
def stepsC (vs : List Tr) : Nat → List Int → List AV
  | _, [] => []
  | i, o :: r => stepC vs i o ++ stepsC vs (stepA vs i o) r
theorem stepC_length (vs : List Tr) (i : Nat) (o : Int) : (stepC vs i o).length = 13 := by
  unfold stepC stepV
  split
  · split <;> rfl
  repeat' split
  all_goals rfl
theorem stepsC_length (vs : List Tr) : ∀ (l : List Int) (i : Nat), (stepsC vs i l).length = l.length * 13
  | [], _ => rfl
  | o :: r, i => by simp only [stepsC, List.length_append, stepC_length, stepsC_length vs r, List.length_cons]; omega
theorem arrK_app' : ∀ (a b : List Tr) (i : Nat), arrK (a ++ b) i = (arrK a i).app (arrK b (i + a.length))
  | [], b, i => rfl
  | v :: r, b, i => by simp only [List.cons_append, arrK, Ks.app, arrK_app' r b (i + 1), List.length_cons]; rw [show i + 1 + r.length = i + (r.length + 1) by omega]
theorem Ks.app_parts' {nm : List UInt8} {v : Tr} {r : Ks} : ∀ (pre : Ks), (pre.app (.cons nm v r)).wf → v.wf ∧ nm.length + v.sz ≤ (pre.app (.cons nm v r)).sz
  | .nil, h => by
    refine ⟨h.2.1, ?_⟩
    show nm.length + v.sz ≤ (Ks.cons nm v r).sz
    rw [Ks.sz_cons]; omega
  | .cons a b p, h => by
    obtain ⟨q1, q2⟩ := Ks.app_parts' p h.2.2
    refine ⟨q1, ?_⟩
    show nm.length + v.sz ≤ (Ks.cons a b (p.app (.cons nm v r))).sz
    rw [Ks.sz_cons]; omega
theorem Ks.app_good' {nm : List UInt8} {v : Tr} {r : Ks} : ∀ (pre : Ks), (pre.app (.cons nm v r)).good → plainL nm = true ∧ ∃ d, v.right d = true
  | .nil, h => ⟨h.1, h.2.1⟩
  | .cons a b p, h => Ks.app_good' p h.2.2
theorem vals_mem_sz : ∀ (K : Ks), K.sz ≤ 90000 → ∀ e ∈ K.vals, e.length < 2147483648
  | .nil, _, e, he => by cases he
  | .cons nm v r, hs, e, he => by
    rw [Ks.sz_cons] at hs
    have hvl := Tr.val_le v
    have hvs : v.sz = v.nb + 18 * v.nodes := rfl
    simp only [Ks.vals, List.mem_cons] at he
    rcases he with rfl | he
    · omega
    · exact vals_mem_sz r (by omega) e he
def posOk (p : Int) (vp : List Tr) : Prop := p = 4 + (arrK vp 0).body.length ∨ (p = 0 ∧ vp = [])
theorem c_one (b : Bool) : ∀ hE : H, callω fns 87 [.bool b] hE = some (.int .i64 (if b then 1 else 0), hE) := by
  intro hE
  refine run87 (Nat.le_of_ble_eq_true rfl) ?_
  cases b <;> simp

theorem l_Iterate {vs : List Tr} {K : Ks} (hK : K = arrK vs 0) (hs : K.sz ≤ 90000) (hg : K.good) (hwf : K.wf) {s : Nat → Nat × Nat} {h : H} (hS : Sens h.Γ s) :
    ∀ (rest pre : List Int) (O acc : RS) (vp vr : List Tr) (p : Int) (os : List Obj) (st : St), vs = vp ++ vr → posOk p vp → (∀ o ∈ rest, 0 ≤ o ∧ o < 5) → st.h = h.app (iO K.doc p :: os) → st.s 5 = .ptr (.obj h.n) 0 → st.s 6 = acc.av 74 13 →
      st.s 19 = O.fv 3 1 → O.l = (pre ++ rest).map (AV.int .i64) → st.s 20 = .int .i64 (pre ++ rest).length → st.s 21 = .int .i64 pre.length → (pre ++ rest).length ≤ 100 → acc.l.length ≤ pre.length * 13 →
      ∀ Q : Ex × St → Prop, (∀ st' : St, (∃ os' p', st'.h = h.app (iO K.doc p' :: os')) → st'.s 6 = (acc.app (stepsC vs vp.length rest)).av 74 13 → Q (.exit 0, st')) → LoopR fns lc34_1 st Q
  | [], pre, O, acc, vp, vr, p, os, st, hv, hp, ho, hh, h5, h6, h19, hO, h20, h21, hl, ha, Q, hA => by
    refine loopω_run fns ?_
    simp [h20, h21]
    refine hA _ ⟨os, p, ?_⟩ ?_ <;> simp [hh, h6, stepsC, RS.app_nil]
  | o :: rest, pre, O, acc, vp, vr, p, os, st, hv, hp, ho, hh, h5, h6, h19, hO, h20, h21, hl, ha, Q, hA => by
    refine loopω_run fns ?_
    have hd : (pre.length : Int) < pre.length + (rest.length + 1) := by omega
    have hw : IntKind.i64.wrap ((pre.length : Int) + 1) = pre.length + 1 := wrap_i64 (by omega) (by simp at hl; omega)
    have hx := RS.fv_at' (e := 3) (b := O) (k := pre.length) (pre := pre.map (AV.int .i64)) (r := rest.map (AV.int .i64)) (x := .int .i64 o) (by rw [hO]; simp) (by simp)
    have hap : ∀ (hp : H) (xs : List AV), xs.length = 13 → apV hp 74 13 176 false (acc.av 74 13) (.slice (.own true) 74 13 xs) = some ((acc.app xs).av 74 13) := fun hp xs hx =>
      RS.apV (by rw [hx]; simp only [tooLong]; simp at hl; omega) (by rw [hx]; simp only [tooLong]; simp at hl; omega)
    have hkey : ∀ (st2 : St) (vp' vr' : List Tr) (p' : Int) (os' : List Obj), vs = vp' ++ vr' → posOk p' vp' → vp'.length = stepA vs vp.length o → st2.h = h.app (iO K.doc p' :: os') → st2.s 5 = .ptr (.obj h.n) 0 → st2.s 6 = (acc.app (stepC vs vp.length o)).av 74 13 →
        st2.s 19 = O.fv 3 1 → st2.s 20 = .int .i64 (pre ++ o :: rest).length → st2.s 21 = .int .i64 (pre.length + 1 : Nat) → LoopR fns lc34_1 st2 Q := by
      intro st2 vp' vr' p' os' q1 q2 q3 q4 q5 q6 q7 q8 q9
      refine l_Iterate hK hs hg hwf hS rest (pre ++ [o]) O (acc.app (stepC vs vp.length o)) vp' vr' p' os' st2 q1 q2 (fun o ho' => ho o (List.mem_cons_of_mem _ ho')) q4 q5 q6 q7 ?_ ?_ ?_ ?_ ?_ Q (fun st' k1 k2 => hA st' k1 ?_)
      · rw [hO]; simp
      · rw [q8]; simp
      · rw [q9]; simp
      · simpa using hl
      · rw [RS.l_app, List.length_append, stepC_length]; simp; omega
      · rw [k2, RS.app_app, q3]; rfl
    have hco := ho o List.mem_cons_self
    have hlv : vs.length = vp.length + vr.length := by rw [hv]; simp
    have hlK : K.len = vs.length := by rw [hK, arrK_len]
    have hKa : K = (arrK vp 0).app (arrK vr (0 + vp.length)) := by rw [hK, hv, arrK_app']
    have hS5 : ∀ os p, Sens (h.app (iO K.doc p :: os)).Γ s := fun _ _ => by rw [H.Γ_app]; exact hS
    have hbk : ∀ K : Ks, K.good → (K.body.length = 0 ↔ K.len = 0) := fun K _ => by
      cases K with
      | nil => simp [Ks.body, Ks.len]
      | cons nm v r => simp [Ks.body, Ks.len, elemL, hdL]
    rcases (by omega : o = 0 ∨ o = 1 ∨ o = 2 ∨ o = 3 ∨ o = 4) with rfl | rfl | rfl | rfl | rfl
    · cases vr with
      | nil =>
        have hN := c_Next0 (K := K) (pre := arrK vp 0) hKa hs h hS os p (by rcases hp with hp | ⟨hp1, hp2⟩; { exact .inl hp }; { exact .inr ⟨hp1, by rw [hp2]; rfl⟩ })
        have hlt : ¬ vp.length < vs.length := by simp at hlv; omega
        have hsc : stepC vs vp.length 0 = [.int .i64 0, .str [], .int .i64 0, .str [], .str [], .int .i64 0, .int .u64 0, .int .u64 0, .slice .nil 0 1 [], .slice .nil 0 1 [], .int .i64 11, .int .i64 0, .slice .nil 0 1 []] := by
          simp [stepC, stepV, zV, List.getElem?_eq_none (Nat.le_of_not_lt hlt), hlt]
        have hsa : stepA vs vp.length 0 = vp.length := by simp [stepA, hlt]
        have hc := fun hE => c_code_sen (s := s) (i := 3) (hE := hE) (by omega)
        have e11 : senC 3 = 11 := rfl
        rw [e11] at hc
        have hc' := hc _ (hS5 os (4 + (arrK vp 0).body.length))
        rw [hsc] at hkey
        have ha13 := fun hp => hap hp [.int .i64 0, .str [], .int .i64 0, .str [], .str [], .int .i64 0, .int .u64 0, .int .u64 0, .slice .nil 0 1 [], .slice .nil 0 1 [], .int .i64 11, .int .i64 0, .slice .nil 0 1 []] rfl
        simp only [sE] at hN hc'
        simp [hh, h5, h6, h19, h20, h21, hd, hx, hw, hN, hc', ha13, ex2_0, ex2_1]
        refine hkey _ vp [] _ os hv (.inl rfl) hsa.symm ?_ ?_ ?_ ?_ ?_ ?_ <;> simp [h5, h6, h19, h20]
      | cons v vr =>
        have hKa' : K = (arrK vp 0).app (.cons (digL (0 + vp.length)) v (arrK vr (0 + vp.length + 1))) := hKa
        obtain ⟨q1, q2⟩ := Ks.app_parts' (arrK vp 0) (by rw [← hKa']; exact hwf)
        obtain ⟨hpl, dd, hR⟩ := Ks.app_good' (arrK vp 0) (by rw [← hKa']; exact hg)
        rw [← hKa'] at q2
        have hvl := Tr.val_le v
        have hvs : v.sz = v.nb + 18 * v.nodes := rfl
        have hN := c_Next1 (K := K) (pre := arrK vp 0) hKa' hs hpl hR (by omega) h os p (by rcases hp with hp | ⟨hp1, hp2⟩; { exact .inl hp }; { exact .inr ⟨hp1, by rw [hp2]; rfl⟩ })
        have hlt : vp.length < vs.length := by simp at hlv; omega
        have hget : vs[vp.length]? = some v := by rw [hv]; simp
        have hsc : stepC vs vp.length 0 = [.int .i64 0, .str [], .int .i64 v.kind, .str [], .str [], .int .i64 0, .int .u64 0, .int .u64 0, bAV 5 (oB v.val), .slice .nil 0 1 [], .int .i64 0, .int .i64 0, .slice .nil 0 1 []] := by
          unfold stepC stepV; rw [if_pos rfl, hget, if_pos hlt]; rfl
        have hsa : stepA vs vp.length 0 = (vp ++ [v]).length := by simp [stepA, hlt]
        have hkr := kind_range hR
        have hwk : IntKind.i64.wrap v.kind = v.kind := wrap_i64 (by omega) (by omega)
        have hown := c_own (some v.val) (by simp only [bl]; omega)
        have hbs : ∀ x : List UInt8, bl (some x) = x := fun _ => rfl
        rw [hbs] at hown
        have hoo : (BS.mk v.val).opt = oB v.val := rfl
        have hcn := c_code_nil
        have hpos : posOk ((4 + ((arrK vp 0).app (.cons (digL (0 + vp.length)) v .nil)).body.length : Nat) : Int) (vp ++ [v]) := by
          refine .inl ?_
          rw [arrK_app']; simp only [arrK]; omega
        rw [hsc] at hkey
        have ha13 := fun hp => hap hp [.int .i64 0, .str [], .int .i64 v.kind, .str [], .str [], .int .i64 0, .int .u64 0, .int .u64 0, bAV 5 (oB v.val), .slice .nil 0 1 [], .int .i64 0, .int .i64 0, .slice .nil 0 1 []] rfl
        generalize ((4 + ((arrK vp 0).app (.cons (digL (0 + vp.length)) v .nil)).body.length : Nat) : Int) = P' at *
        generalize oB v.val = OV at *
        simp [hh, h5, h6, h19, h20, h21, hd, hx, hw, hN, hcn, ha13, hwk, hown, hoo, nnV, H.set_appL, ex2_0, ex2_1]
        refine hkey _ (vp ++ [v]) vr P' (os ++ [.cells [.int .u8 v.kind, bAV 5 (some v.val)]]) ?_ hpos hsa.symm ?_ ?_ ?_ ?_ ?_ ?_ <;> simp [h5, h6, h19, h20, hv]
    · have hN := c_Reset h K.doc p os
      have hsc : stepC vs vp.length 1 = [.int .i64 1, .str [], .int .i64 0, .str [], .str [], .int .i64 0, .int .u64 0, .int .u64 0, .slice .nil 0 1 [], .slice .nil 0 1 [], .int .i64 0, .int .i64 0, .slice .nil 0 1 []] := by simp [stepC, zV]
      have hsa : stepA vs vp.length 1 = ([] : List Tr).length := by simp [stepA]
      rw [hsc] at hkey
      have ha13 := fun hp => hap hp [.int .i64 1, .str [], .int .i64 0, .str [], .str [], .int .i64 0, .int .u64 0, .int .u64 0, .slice .nil 0 1 [], .slice .nil 0 1 [], .int .i64 0, .int .i64 0, .slice .nil 0 1 []] rfl
      simp [hh, h5, h6, h19, h20, h21, hd, hx, hw, hN, ha13]
      refine hkey _ [] vs 0 os rfl (.inr ⟨rfl, rfl⟩) hsa.symm ?_ ?_ ?_ ?_ ?_ ?_ <;> simp [h5, h6, h19, h20]
    · have hN := c_Count hs hg h p os
      rw [hlK] at hN
      have hsc : stepC vs vp.length 2 = [.int .i64 2, .str [], .int .i64 0, .str [], .str [], .int .i64 0, .int .u64 0, .int .u64 0, .slice .nil 0 1 [], .slice .nil 0 1 [], .int .i64 0, .int .i64 vs.length, .slice .nil 0 1 []] := by simp [stepC, zV]
      have hsa : stepA vs vp.length 2 = vp.length := by simp [stepA]
      rw [hsc] at hkey
      have ha13 := fun hp => hap hp [.int .i64 2, .str [], .int .i64 0, .str [], .str [], .int .i64 0, .int .u64 0, .int .u64 0, .slice .nil 0 1 [], .slice .nil 0 1 [], .int .i64 0, .int .i64 vs.length, .slice .nil 0 1 []] rfl
      simp [hh, h5, h6, h19, h20, h21, hd, hx, hw, hN, ha13]
      refine hkey _ vp vr p os hv hp hsa.symm ?_ ?_ ?_ ?_ ?_ ?_ <;> simp [h5, h6, h19, h20]
    · have hN := c_Empty h K.doc p os
      have hdl := Ks.doc_length K
      have hbz := hbk K hg
      have e5 : decide (K.doc.length ≤ 5) = decide (vs.length = 0) := by rw [decide_eq_decide]; omega
      rw [e5] at hN
      have hone := c_one (decide (vs.length = 0))
      simp only [decide_eq_true_eq] at hone
      have hsc : stepC vs vp.length 3 = [.int .i64 3, .str [], .int .i64 0, .str [], .str [], .int .i64 0, .int .u64 0, .int .u64 0, .slice .nil 0 1 [], .slice .nil 0 1 [], .int .i64 0, .int .i64 (if vs.length = 0 then 1 else 0), .slice .nil 0 1 []] := by simp [stepC, zV]
      have hsa : stepA vs vp.length 3 = vp.length := by simp [stepA]
      rw [hsc] at hkey
      generalize decide (vs.length = 0) = DZ at *
      generalize (if vs.length = 0 then (1 : Int) else 0) = NZ at *
      have ha13 := fun hp => hap hp [.int .i64 3, .str [], .int .i64 0, .str [], .str [], .int .i64 0, .int .u64 0, .int .u64 0, .slice .nil 0 1 [], .slice .nil 0 1 [], .int .i64 0, .int .i64 NZ, .slice .nil 0 1 []] rfl
      simp [hh, h5, h6, h19, h20, h21, hd, hx, hw, hN, hone, ha13]
      refine hkey _ vp vr p os hv hp hsa.symm ?_ ?_ ?_ ?_ ?_ ?_ <;> simp [h5, h6, h19, h20]
    · have hN := c_Documents hs hg h p os
      have hKd : K.docs = docsV vs := by rw [hK, arrK_docs]
      have hKv : K.vals = vs.map Tr.val := by rw [hK, arrK_vals]
      have hvm := vals_mem_sz K hs
      have hvl := Ks.vals_length K
      have hKn := Ks.len_le K
      have hKs : K.sz = K.nb + 18 * K.nodes := rfl
      have hsa : stepA vs vp.length 4 = vp.length := by simp [stepA]
      rw [hKd] at hN
      cases hdd : docsV vs with
      | true =>
        rw [hdd] at hN
        simp only [if_true] at hN
        have hsc : stepC vs vp.length 4 = [.int .i64 4, .str [], .int .i64 0, .str [], .str [], .int .i64 0, .int .u64 0, .int .u64 0, .slice .nil 0 1 [], .slice .nil 0 1 [], .int .i64 0, .int .i64 0, (RS.mk (rowsO K.vals)).fv 22 1] := by simp [stepC, zV, hdd, hKv]
        rw [hsc] at hkey
        have ha13 := fun hp => hap hp [.int .i64 4, .str [], .int .i64 0, .str [], .str [], .int .i64 0, .int .u64 0, .int .u64 0, .slice .nil 0 1 [], .slice .nil 0 1 [], .int .i64 0, .int .i64 0, (RS.mk (rowsO K.vals)).fv 22 1] rfl
        have hcn := c_code_nil
        have hLl : (RS.own true (rowsC 5 K.vals)).l = rowsC 5 K.vals := rfl
        have n1 : aLen false ((RS.own true (rowsC 5 K.vals)).fv 134 1) = some (.int .i64 K.vals.length) := RS.fv_len (by omega) (by rw [hLl]; simp)
        have hdl := l_docsL (c0 := .int .i64 4) (nm := .str []) (c3 := .int .i64 0) (c4 := .str []) (c5 := .str []) (c6 := .int .i64 0) (c7 := .int .u64 0) (c8 := .int .u64 0) (c9 := .slice .nil 0 1 []) (c10 := .slice .nil 0 1 []) (cc := .int .i64 0) (c11 := .int .i64 0) K.vals [] (RS.own true (rowsC 5 K.vals)) RS.nil
        generalize RS.own true (rowsC 5 K.vals) = LL at *
        simp [hh, h5, h6, h19, h20, h21, hd, hx, hw, hN, hcn, n1, ex2_0, ex2_1]
        refine hdl _ ?_ ?_ ?_ ?_ ?_ ?_ ?_ hvm ?_ _ (fun st' k1 k2 k3 k4 k5 k6 k7 k8 => ?_)
        · simp
        · simpa using hLl
        · simp
        · simp
        · simp
        · simp [RS.av]
        · simp; omega
        · simp [RS.l]
        · rw [RS.nil_app] at k8
          simp [h5, h6, h19, h20, h21] at k1 k2 k3 k4 k5 k6
          simp [k1, k2, k3, k4, k5, k6, k7, k8, hw, ha13]
          refine hkey _ vp vr p os hv hp hsa.symm ?_ ?_ ?_ ?_ ?_ ?_ <;> simp [k1, k2, k3, k4, k5, hh]
      | false =>
        rw [hdd] at hN
        simp only [Bool.false_eq_true, if_false] at hN
        have hsc : stepC vs vp.length 4 = [.int .i64 4, .str [], .int .i64 0, .str [], .str [], .int .i64 0, .int .u64 0, .int .u64 0, .slice .nil 0 1 [], .slice .nil 0 1 [], .int .i64 9, .int .i64 0, .slice .nil 0 1 []] := by simp [stepC, zV, hdd]
        rw [hsc] at hkey
        have ha13 := fun hp => hap hp [.int .i64 4, .str [], .int .i64 0, .str [], .str [], .int .i64 0, .int .u64 0, .int .u64 0, .slice .nil 0 1 [], .slice .nil 0 1 [], .int .i64 9, .int .i64 0, .slice .nil 0 1 []] rfl
        have hcw := c_code_new (s := s) (i := h.n + (os.length + 1)) (hE := h.app (iO K.doc p :: (os ++ [.cells [.str msgD]]))) (cs := [.str msgD]) (by simp) (by rw [H.Γ_app]; exact hS)
        have hdl := l_docsL (c0 := .int .i64 4) (nm := .str []) (c3 := .int .i64 0) (c4 := .str []) (c5 := .str []) (c6 := .int .i64 0) (c7 := .int .u64 0) (c8 := .int .u64 0) (c9 := .slice .nil 0 1 []) (c10 := .slice .nil 0 1 []) (cc := .int .i64 9) (c11 := .int .i64 0) [] [] RS.nil RS.nil
        generalize (Obj.cells [.str msgD]) = MO at *
        simp [hh, h5, h6, h19, h20, h21, hd, hx, hw, hN, hcw, ex2_0, ex2_1]
        refine hdl _ ?_ ?_ ?_ ?_ ?_ ?_ ?_ (fun e he => by cases he) ?_ _ (fun st' k1 k2 k3 k4 k5 k6 k7 k8 => ?_)
        · simp [RS.fv]
        · simp [RS.l]
        · simp
        · simp
        · simp
        · simp [RS.av]
        · simp
        · simp [RS.l]
        · simp only [rowsO, List.map_nil, RS.app_nil] at k8
          simp [h5, h6, h19, h20, h21] at k1 k2 k3 k4 k5 k6
          simp only [RS.av] at k8
          simp [k1, k2, k3, k4, k5, k6, k7, k8, hw, ha13]
          refine hkey _ vp vr p (os ++ [MO]) hv hp hsa.symm ?_ ?_ ?_ ?_ ?_ ?_ <;> simp [k1, k2, k3, k4, k5]
theorem c_Iterate {vs : List Tr} {K : Ks} (hK : K = arrK vs 0) (hs : K.sz ≤ 90000) (hg : K.good) (hwf : K.wf) {s : Nat → Nat × Nat} (ops : List Int) (O : RS) (hO : O.l = ops.map (AV.int .i64)) (hl : ops.length ≤ 100) (ho : ∀ o ∈ ops, 0 ≤ o ∧ o < 5) (h : H) (hS : Sens h.Γ s) :
    callv fns 34 [bAV 5 (some K.doc), O.fv 3 1] h = some ((RS.mk (stepsC vs 0 ops)).av 74 13) := by
  have n1 : aLen false (O.fv 3 1) = some (.int .i64 ops.length) := RS.fv_len (by omega) (by rw [hO]; simp)
  have hll := l_Iterate hK hs hg hwf hS ops [] O RS.nil [] vs 0 []
  have hol : oldL h.n (stepsC vs 0 ops) = true := by
    have hst : ∀ (l : List Int) (i : Nat), oldL h.n (stepsC vs i l) = true := by
      intro l
      induction l with
      | nil => intro i; rfl
      | cons o r ih =>
        intro i
        have hrow : ∀ l : List (List UInt8), oldL h.n (rowsO l) = true := by
          intro l
          induction l with
          | nil => rfl
          | cons x l ih => rw [rowsO_cons]; simp [ih]
        have : oldL h.n (stepC vs i o) = true := by
          unfold stepC stepV zV
          repeat' split
          all_goals simp [hrow]
        simp only [stepsC]
        simp [this, ih]
    exact hst ops 0
  refine runv34 (Nat.le_of_ble_eq_true rfl) ?_
  simp [n1, H.push_app]
  refine hll _ rfl (.inr ⟨rfl, rfl⟩) ho ?_ ?_ ?_ ?_ hO ?_ ?_ ?_ ?_ _ (fun st' k1 k2 => ?_)
  · simp [iO]
  · simp
  · simp [RS.av]
  · simp
  · simp
  · simp
  · simpa using hl
  · simp [RS.l]
  · obtain ⟨os', p', k1⟩ := k1
    rw [RS.nil_app] at k2
    simp [k1, k2, noHeap, hol]
end Go.Proofs.YtcodfehgnjplcaaGreatDoor.Abs
