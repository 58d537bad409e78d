/- Both layers over any bytes: names, numbers, lists compared; where names lead through what is narrow. -/
import Derived.Test.YtdnfnobgeddbfaaGreatDoorELowC
import Derived.Test.YtdnfnobgeddbfaaGreatDoorELookA
import Derived.Test.YtdnfnobgeddbfaaGreatDoorEParts
namespace Go.Proofs.YtdnfnobgeddbfaaGreatDoor.Abs
set_option linter.all false
open Go.Proofs
set_option linter.unusedVariables false
set_option linter.unusedSimpArgs false
set_option maxRecDepth 100000
set_option maxHeartbeats 8000000

theorem c_BindSame (k k' : Int) (o o' : Option (List UInt8)) : ∀ hE : H, callω fns 19 [.agg [.int .i64 k, bAV 5 o], .agg [.int .i64 k', bAV 5 o']] hE = some (.bool (decide (k = k') && bl o == bl o'), hE) := by
  intro hE
  refine run19 (Nat.le_of_ble_eq_true rfl) ?_
  by_cases h : k = k'
  · simp [h]
  · simp [h]
theorem l_bindLists {E : List (List UInt8)} (hEl : E.length ≤ 5000) : ∀ (rest pre : List (List UInt8)) (A B : RS) (st : St), E = pre ++ rest → st.s 0 = A.fv 22 1 → A.l = rowsC 5 E → st.s 1 = B.fv 22 1 → B.l = rowsC 5 E → st.s 12 = .int .i64 E.length → st.s 13 = .int .i64 pre.length →
    ∀ Q : Ex × St → Prop, (∀ st' : St, st'.h = st.h → Q (.exit 0, st')) → LoopR fns lc7_0 st Q
  | [], pre, A, B, st, hp, h0, hA, h1, hB, h12, h13, Q, hQ => by
    refine loopω_run fns ?_
    have hlen : E.length = pre.length := by rw [hp]; simp
    simp [h12, h13, hlen]
    exact hQ _ (by simp)
  | x :: rest, pre, A, B, st, hp, h0, hA, h1, hB, h12, h13, Q, hQ => by
    refine loopω_run fns ?_
    have hlen : E.length = pre.length + (rest.length + 1) := by rw [hp]; simp
    have hlt : (pre.length : Int) < pre.length + (rest.length + 1) := by omega
    have x1 := RS.fv_at' (e := 22) (b := A) (k := pre.length) (pre := rowsC 5 pre) (r := rowsC 5 rest) (x := bAV 5 (some x)) (by rw [hA, hp, rowsC_append]; rfl) (by simp)
    have x2 := RS.fv_at' (e := 22) (b := B) (k := pre.length) (pre := rowsC 5 pre) (r := rowsC 5 rest) (x := bAV 5 (some x)) (by rw [hB, hp, rowsC_append]; rfl) (by simp)
    have hw : IntKind.i64.wrap ((pre.length : Int) + 1) = pre.length + 1 := wrap_i64 (by omega) (by omega)
    simp [h0, h1, h12, h13, hlen, hlt, x1, x2, hw, bl]
    refine l_bindLists hEl rest (pre ++ [x]) A B _ ?_ ?_ hA ?_ hB ?_ ?_ Q (fun st' k => hQ st' (by rw [k]))
    · rw [hp]; simp
    · simp [h0]
    · simp [h1]
    · simp [h12, hlen]
    · simp
theorem c_bindLists {E : List (List UInt8)} (hEl : E.length ≤ 5000) (A B : RS) (hA : A.l = rowsC 5 E) (hB : B.l = rowsC 5 E) : ∀ hE : H, callω fns 7 [A.fv 22 1, B.fv 22 1] hE = some (.bool true, hE) := by
  intro hE
  have n1 : aLen false (A.fv 22 1) = some (.int .i64 E.length) := RS.fv_len (by omega) (by rw [hA]; simp)
  have n2 : aLen false (B.fv 22 1) = some (.int .i64 E.length) := RS.fv_len (by omega) (by rw [hB]; simp)
  refine run7 (Nat.le_of_ble_eq_true rfl) ?_
  simp [n1, n2]
  refine l_bindLists hEl E [] A B _ rfl ?_ hA ?_ hB ?_ ?_ _ (fun st' k => ?_)
  · simp
  · simp
  · simp
  · simp
  · simp [k]
theorem l_bindRaws {E : List (List UInt8)} (hEl : E.length ≤ 5000) : ∀ (rest pre : List (List UInt8)) (A B : RS) (st : St), E = pre ++ rest → st.s 0 = A.fv 39 2 → A.l = rawsC 5 E → st.s 1 = B.fv 39 2 → B.l = rawsC 5 E → st.s 12 = .int .i64 E.length → st.s 13 = .int .i64 pre.length →
    ∀ Q : Ex × St → Prop, (∀ st' : St, st'.h = st.h → Q (.exit 0, st')) → LoopR fns lc12_0 st Q
  | [], pre, A, B, st, hp, h0, hA, h1, hB, h12, h13, Q, hQ => by
    refine loopω_run fns ?_
    have hlen : E.length = pre.length := by rw [hp]; simp
    simp [h12, h13, hlen]
    exact hQ _ (by simp)
  | x :: rest, pre, A, B, st, hp, h0, hA, h1, hB, h12, h13, Q, hQ => by
    refine loopω_run fns ?_
    have hlen : E.length = pre.length + (rest.length + 1) := by rw [hp]; simp
    have hlt : (pre.length : Int) < pre.length + (rest.length + 1) := by omega
    have x1 := RS.fv_at2 (e := 39) (b := A) (k := pre.length) (m := pre.length + (rest.length + 1)) (pre := rawsC 5 pre) (r := rawsC 5 (x :: rest)) (by rw [hA, hp, rawsC_append]) (by simp) (by rw [hA, rawsC_length, hlen]) (by omega)
    have x2 := RS.fv_at2 (e := 39) (b := B) (k := pre.length) (m := pre.length + (rest.length + 1)) (pre := rawsC 5 pre) (r := rawsC 5 (x :: rest)) (by rw [hB, hp, rawsC_append]) (by simp) (by rw [hB, rawsC_length, hlen]) (by omega)
    rw [rawsC_cons] at x1 x2
    have hs := c_BindSame (kv x).1 (kv x).1 (oB (kv x).2) (oB (kv x).2)
    simp only [decide_true, Bool.true_and, beq_self_eq_true] at hs
    have hw : IntKind.i64.wrap ((pre.length : Int) + 1) = pre.length + 1 := wrap_i64 (by omega) (by omega)
    simp only [List.cons_append, List.nil_append] at x1 x2
    generalize oB (kv x).2 = OD at *
    generalize (kv x).1 = K at *
    simp [h0, h1, h12, h13, hlen, hlt, x1, x2, hs, hw]
    refine l_bindRaws hEl rest (pre ++ [x]) A B _ ?_ ?_ hA ?_ hB ?_ ?_ Q (fun st' k => hQ st' (by rw [k]))
    · rw [hp]; simp
    · simp [h0]
    · simp [h1]
    · simp [h12, hlen]
    · simp
theorem c_bindRaws {E : List (List UInt8)} (hEl : E.length ≤ 5000) (A B : RS) (hA : A.l = rawsC 5 E) (hB : B.l = rawsC 5 E) : ∀ hE : H, callω fns 12 [A.fv 39 2, B.fv 39 2] hE = some (.bool true, hE) := by
  intro hE
  have n1 : aLen false (A.fv 39 2) = some (.int .i64 E.length) := RS.fv_len (by omega) (by rw [hA]; simp)
  have n2 : aLen false (B.fv 39 2) = some (.int .i64 E.length) := RS.fv_len (by omega) (by rw [hB]; simp)
  refine run12 (Nat.le_of_ble_eq_true rfl) ?_
  simp [n1, n2]
  refine l_bindRaws hEl E [] A B _ rfl ?_ hA ?_ hB ?_ ?_ _ (fun st' k => ?_)
  · simp
  · simp
  · simp
  · simp
  · simp [k]

/-! ### Where names lead through what is narrow -/
def nrP : List (List UInt8) → List UInt8 → Bool
  | [], _ => false
  | a :: p, d => if p = [] then false else match (wP d).1.find? (fun e => nmE e == a) with
    | none => false
    | some e => if eOk e = true then (if (kv e).1 = 3 ∨ (kv e).1 = 4 then nrP p (kv e).2 else false) else true
theorem lkL_some {d a : List UInt8} {last : Bool} {rec : List UInt8 → LkT} : ∀ (f : Nat) (n : Int) (l : List UInt8), (∀ e, (partsR f n l).1.find? (fun e => nmE e == a) = some e → last = true ∨ (eOk e = true ∧ (((kv e).1 = 3 ∨ (kv e).1 = 4) → (rec (kv e).2).isSome = true))) → (lkL d a last rec f n l).isSome = true
  | 0, n, l, h => rfl
  | f + 1, n, l, h => by
    simp only [lkL, partsR] at h ⊢
    by_cases hn : n ≤ 1
    · simp [hn]
    · rw [if_neg hn] at h ⊢
      cases he : eGet l with
      | none => rfl
      | some m =>
        rw [he] at h
        simp only at h ⊢
        by_cases hna : nmE (l.take m) = a
        · rw [if_pos hna]
          have hh := h (l.take m) (by simp [List.find?_cons, hna])
          rcases hh with hl | ⟨h1, h2⟩
          · rw [if_pos hl]; rfl
          · by_cases hl : last = true
            · rw [if_pos hl]; rfl
            · rw [if_neg hl, if_pos h1]
              split
              · rename_i h3; exact h2 h3
              · rfl
        · rw [if_neg hna]
          refine lkL_some f _ _ fun e he2 => h e ?_
          have : (nmE (l.take m) == a) = false := by simpa using hna
          rw [List.find?_cons, this]; exact he2
theorem lkR_some : ∀ (p : List (List UInt8)) (d : List UInt8), nrP p d = false → (lkR p d).isSome = true
  | [], d, _ => rfl
  | a :: p, d, h => by
    simp only [lkR]
    by_cases hk : okL d = true
    · rw [if_pos hk]
      refine lkL_some _ _ _ fun e he => ?_
      by_cases hp : p = []
      · exact .inl (by rw [hp]; rfl)
      · refine .inr ?_
        have hw : (wP d).1.find? (fun e => nmE e == a) = some e := by unfold wP; rw [if_pos hk]; exact he
        simp only [nrP, if_neg hp, hw] at h
        split at h
        · rename_i h1
          refine ⟨h1, fun h3 => ?_⟩
          rw [if_pos h3] at h
          exact lkR_some p _ h
        · cases h
    · rw [if_neg hk]; rfl
theorem lkL_rng {d a : List UInt8} {last : Bool} {rec : List UInt8 → LkT} (hrec : ∀ d' R v, rec d' = some R → R.1 = some v → (0 ≤ v.1 ∧ v.1 < 256) ∧ v.2.length ≤ d'.length) : ∀ (f : Nat) (n : Int) (l : List UInt8) (R) (v), lkL d a last rec f n l = some R → R.1 = some v → (0 ≤ v.1 ∧ v.1 < 256) ∧ v.2.length ≤ l.length
  | 0, n, l, R, v, h, hv => by simp only [lkL, Option.some.injEq] at h; subst h; cases hv
  | f + 1, n, l, R, v, h, hv => by
    simp only [lkL] at h
    split at h
    · injection h with h; subst h; cases hv
    split at h
    · injection h with h; subst h; cases hv
    rename_i m he
    have hm := eGet_le he
    have hk := kv_len (l.take m)
    rw [List.length_take] at hk
    have hr := kv_range (l.take m)
    split at h
    · split at h
      · injection h with h; subst h
        split at hv
        · injection hv with hv; subst hv; exact ⟨hr, by omega⟩
        · cases hv
      split at h
      · split at h
        · have := hrec _ _ _ h hv; exact ⟨this.1, by omega⟩
        · injection h with h; subst h; cases hv
      · cases h
    · have := lkL_rng hrec f _ _ R v h hv
      rw [List.length_drop] at this
      exact ⟨this.1, by omega⟩
theorem lkR_rng : ∀ (p : List (List UInt8)) (d : List UInt8) (R) (v), lkR p d = some R → R.1 = some v → (0 ≤ v.1 ∧ v.1 < 256) ∧ v.2.length ≤ d.length
  | [], d, R, v, h, hv => by simp only [lkR, Option.some.injEq] at h; subst h; cases hv
  | a :: p, d, R, v, h, hv => by
    simp only [lkR] at h
    split at h
    · have := lkL_rng (fun d' R v h hv => lkR_rng p d' R v h hv) _ _ _ R v h hv
      rw [List.length_drop] at this
      exact ⟨this.1, by omega⟩
    · injection h with h; subst h; cases hv
theorem l_Narrow {P : List (List UInt8)} {a : List UInt8} {p : List (List UInt8)} {b b' : RS} (hb : SR1 b b' a p) (hpe : p ≠ []) (hPl : P.length ≤ 5000) (hP : ∀ e ∈ P, eOk e = (vGet (kv e).1 (kv e).2).isSome ∧ (kv e).2.length ≤ 5000)
    (hrec : ∀ d' : List UInt8, d'.length ≤ 5000 → ∀ hE : H, callω fns 15 [bAV 5 (some d'), b'.fv 9 1] hE = some (.bool (nrP p d'), hE)) :
    ∀ (rest pre : List (List UInt8)) (L : RS) (st : St), P = pre ++ rest → st.s 5 = L.av 76 4 → L.l = partsC 5 P → st.s 1 = b.fv 9 1 → st.s 8 = .int .i64 pre.length → st.b 9 = none → ∀ Q : Ex × St → Prop,
      (rest.find? (fun e => nmE e == a) = none → ∀ st' : St, st'.h = st.h → Q (.exit 0, st')) →
      (∀ e, rest.find? (fun e => nmE e == a) = some e → ∀ st' : St, st'.h = st.h → st'.s 4 = .bool (if eOk e = true then (if (kv e).1 = 3 ∨ (kv e).1 = 4 then nrP p (kv e).2 else false) else true) → Q (.ret, st')) → LoopR fns lc15_0 st Q
  | [], pre, L, st, hp, h5, hL, h1, h8, hb9, Q, hA, hB => by
    refine loopω_run fns ?_
    have n1 : aLen false (L.av 76 4) = some (.int .i64 pre.length) := RS.av_len (by omega) (by rw [hL, partsC_length, hp]; simp)
    have n2 : aLen false (L.lv 76 4) = some (.int .i64 pre.length) := RS.lv_len (by omega) (by rw [hL, partsC_length, hp]; simp)
    simp [h5, h8, n1, n2, pkV]
    exact hA rfl _ (by simp)
  | x :: rest, pre, L, st, hp, h5, hL, h1, h8, hb9, Q, hA, hB => by
    refine loopω_run fns ?_
    have hlen : P.length = pre.length + (rest.length + 1) := by rw [hp]; simp
    have hll : L.l.length = (pre.length + (rest.length + 1)) * 4 := by rw [hL, partsC_length, hlen]
    have hlt : (pre.length : Int) < pre.length + (rest.length + 1) := by omega
    have n1 : aLen false (L.av 76 4) = some (.int .i64 ((pre.length : Int) + (rest.length + 1))) := by
      have := RS.av_len (e := 76) (sz := 4) (b := L) (by omega) hll; simpa using this
    have n2 : aLen false (L.lv 76 4) = some (.int .i64 ((pre.length : Int) + (rest.length + 1))) := by
      have := RS.lv_len (e := 76) (sz := 4) (b := L) (by omega) hll; simpa using this
    have hx : ixV 4 (L.fv 76 4) (.int .i64 (pre.length : Int)) = some (.eptr (partsC 5 (x :: rest))) := RS.fv_at4 (m := pre.length + (rest.length + 1)) (pre := partsC 5 pre) (by rw [hL, hp, partsC_append]) (by simp) hll (by omega)
    rw [partsC_cons] at hx
    obtain ⟨rst, b1⟩ := hb.at0
    have b2 := hb.len
    have b3 := hb.lenV
    have b4 := hb.sl
    have hp1 : (1 : Int) < ((p.length + 1 : Nat) : Int) := by have : p.length ≠ 0 := fun e => hpe (List.length_eq_zero_iff.1 e); omega
    obtain ⟨q1, q2⟩ := hP x (by rw [hp]; simp)
    have hkr := kv_range x
    have hg := c_DocGood (nmE x) x (kv x).1 hkr.1 hkr.2 (kv x).2 q2
    rw [← q1] at hg
    have hr := hrec (kv x).2 q2
    have hw : IntKind.i64.wrap ((pre.length : Int) + 1) = pre.length + 1 := wrap_i64 (by omega) (by omega)
    generalize (p.length + 1 : Nat) = PL at *
    by_cases hna : nmE x = a
    · have hfi : (x :: rest).find? (fun e => nmE e == a) = some x := by simp [List.find?_cons, hna]
      have hB' := hB x hfi
      clear hA hB
      subst hna
      generalize nrP p (kv x).2 = NR at *
      generalize (kv x).1 = K at *
      generalize (kv x).2 = D at *
      cases hk : eOk x with
      | false =>
        rw [hk] at hg hB'
        simp [h5, h1, h8, n1, n2, hlt, hx, b1, b2, hp1, hg, pkV]
        refine hB' _ ?_ ?_ <;> simp
      | true =>
        rw [hk] at hg hB'
        simp only [if_true] at hB'
        by_cases h3 : K = 3
        · have hor : K = 3 ∨ K = 4 := .inl h3
          rw [if_pos hor] at hB'
          subst h3
          simp [h5, h1, h8, n1, n2, hlt, hx, b1, b2, b3, b4, hp1, hg, hr, pkV]
          refine hB' _ ?_ ?_ <;> simp
        · by_cases h4 : K = 4
          · have hor : K = 3 ∨ K = 4 := .inr h4
            rw [if_pos hor] at hB'
            subst h4
            simp [h5, h1, h8, n1, n2, hlt, hx, b1, b2, b3, b4, hp1, hg, hr, pkV]
            refine hB' _ ?_ ?_ <;> simp
          · have hor : ¬ (K = 3 ∨ K = 4) := by omega
            rw [if_neg hor] at hB'
            simp [h5, h1, h8, n1, n2, hlt, hx, b1, b2, b3, b4, hp1, hg, h3, h4, pkV]
            refine hB' _ ?_ ?_ <;> simp
    · have hna' : (nmE x == a) = false := by simpa using hna
      have hfi : (x :: rest).find? (fun e => nmE e == a) = rest.find? (fun e => nmE e == a) := by rw [List.find?_cons, hna']
      rw [hfi] at hA hB
      generalize (kv x).1 = K at *
      generalize (kv x).2 = D at *
      simp [h5, h1, h8, n1, n2, hlt, hx, b1, b2, hp1, hna', hw, pkV]
      refine l_Narrow hb hpe hPl hP hrec rest (pre ++ [x]) L.sh _ ?_ ?_ ?_ ?_ ?_ ?_ Q (fun k st' e1 => hA k st' ?_) (fun e k st' e1 e2 => hB e k st' ?_ e2)
      · rw [hp]; simp
      · simp
      · simpa using hL
      · simp [h1]
      · simp
      · simp [hb9]
      · rw [e1]
      · rw [e1]
theorem c_Narrow : ∀ (p : List (List UInt8)) (b : RS), b.fv 9 1 = (strsR p).fv 9 1 ∨ (p = [] ∧ b = .nil) → p.length ≤ 1000 → ∀ d : List UInt8, d.length ≤ 5000 → ∀ hE : H, callω fns 15 [bAV 5 (some d), b.fv 9 1] hE = some (.bool (nrP p d), hE)
  | p, b, hbs, hpl, d, hl, hE => by
    have hd := c_DocParts (some d) (by simpa [bl] using hl)
    have hbs' : ∀ x : List UInt8, bl (some x) = x := fun _ => rfl
    rw [hbs'] at hd
    obtain ⟨m1, m2⟩ := wP_mem hl
    have hL : (RS.mk (partsC 5 (wP d).1)).l = partsC 5 (wP d).1 := RS.l_mk _
    have n1 : aLen false ((RS.mk (partsC 5 (wP d).1)).av 76 4) = some (.int .i64 (wP d).1.length) := RS.av_len (by omega) (by rw [hL]; simp)
    have n2 : aLen false ((RS.mk (partsC 5 (wP d).1)).lv 76 4) = some (.int .i64 (wP d).1.length) := RS.lv_len (by omega) (by rw [hL]; simp)
    have hshort : p.length ≤ 1 → nrP p d = false := by
      intro h
      match p, h with
      | [], _ => rfl
      | [a], _ => rfl
    have hblen : aLen false (b.fv 9 1) = some (.int .i64 p.length) := by
      rcases hbs with hbs | ⟨rfl, rfl⟩
      · rw [hbs, RS.fv_len1]; simp [strsR, RS.l]
      · simp [RS.fv]
    by_cases hp2 : p.length ≤ 1
    · rw [hshort hp2]
      have g1 : ¬ ((1 : Int) < p.length) := by omega
      generalize RS.mk (partsC 5 (wP d).1) = L at *
      refine run15 (Nat.le_of_ble_eq_true rfl) ?_
      simp [hd, ex3_0, ex3_1, ex3_2]
      refine loopω_run fns ?_
      by_cases hz : (wP d).1.length = 0
      · have hz' : (wP d).1 = [] := List.length_eq_zero_iff.1 hz
        have g2 : ¬ ((0 : Int) < (wP d).1.length) := by omega
        simp [n1, n2, g2, hz', hblen, g1, pkV]
      · have g2 : ((0 : Int) < (wP d).1.length) := by omega
        have hz' : ¬ (wP d).1 = [] := fun e => hz (by rw [e]; rfl)
        have hz3 : 0 < (wP d).1.length := by omega
        simp [n1, n2, g2, hz', hz3, hblen, g1, pkV]
    · match p, hp2, hbs, hpl, hblen with
      | a :: p, hp2, hbs, hpl, hblen =>
      have hpe : p ≠ [] := fun e => by subst e; simp at hp2
      have hbs2 : b.fv 9 1 = (strsR (a :: p)).fv 9 1 := by
        rcases hbs with h | ⟨h, _⟩
        · exact h
        · cases h
      have hsr := SR1_of a p
      have hrec : ∀ d' : List UInt8, d'.length ≤ 5000 → ∀ hE : H, callω fns 15 [bAV 5 (some d'), (strsR p).fv 9 1] hE = some (.bool (nrP p d'), hE) :=
        fun d' h hE => c_Narrow p (strsR p) (.inl rfl) (by simp at hpl; omega) d' h hE
      rw [hbs2]
      have hnr : nrP (a :: p) d = match (wP d).1.find? (fun e => nmE e == a) with
        | none => false
        | some e => if eOk e = true then (if (kv e).1 = 3 ∨ (kv e).1 = 4 then nrP p (kv e).2 else false) else true := by simp only [nrP, if_neg hpe]
      rw [hnr]
      have hll := l_Narrow hsr hpe m1 (fun e he => (m2 e he).1) hrec (wP d).1 [] (RS.mk (partsC 5 (wP d).1))
      generalize strsR (a :: p) = b2 at *
      generalize strsR p = b3 at *
      generalize RS.mk (partsC 5 (wP d).1) = L at *
      generalize (wP d).1 = PP at *
      refine run15 (Nat.le_of_ble_eq_true rfl) ?_
      simp [hd, ex3_0, ex3_1, ex3_2]
      refine hll _ rfl ?_ hL ?_ ?_ ?_ _ (fun hf st' k1 => ?_) (fun e hf st' k1 k2 => ?_)
      · simp
      · simp
      · simp
      · simp
      · rw [hf]; simp [k1]
      · rw [hf]; simp [k1, k2]

/-! ### The value to which names lead, through both layers -/
theorem lkE_vk (s : Nat → Nat × Nat) (e : LkE) : (∀ t, (e.av s).kill t = e.av s) ∧ gvV (e.av s) = e.av s ∧ hdV (e.av s) = e.av s ∧ lfV (e.av s) = e.av s ∧ (e.av s).cls .left = e.av s ∧ (∀ m, cpV m (e.av s) = e.av s) ∧ (∀ m, cpS m (e.av s) = e.av s) ∧ (e.av s).plain = true ∧ (e.av s).cells = [e.av s] ∧ (e.av s).several = false ∧ ∀ st n, takeU (e.av s) st n = (e.av s, st.set n (e.av s)) := by
  cases e <;> exact ⟨fun _ => rfl, rfl, rfl, rfl, rfl, fun m => by cases m <;> rfl, fun m => by cases m <;> rfl, rfl, rfl, rfl, fun _ _ => rfl⟩
theorem c_code_lk {s : Nat → Nat × Nat} (e : LkE) {hE : H} (hS : Sens hE.Γ s) : callω fns 23 [e.av s] hE = some (.int .i64 e.code, hE) := by
  cases e with
  | nil => exact c_code_nil hE
  | few a b => exact c_code_few a b hE
  | nf => exact c_code_sen (i := 1) (by omega) hS
  | dep a k => exact c_code_dep a k hE
  | emp => exact c_code_sen (i := 2) (by omega) hS
theorem c_bothLook {s : Nat → Nat × Nat} {p : List (List UInt8)} {b : RS} (hb : b.fv 9 1 = (strsR p).fv 9 1 ∨ (p = [] ∧ b = .nil)) (hpl : p.length ≤ 1000) {d : List UInt8} (hl : d.length ≤ 5000) {R} (hR : lkR p d = some R) {hE : H} (hS : Sens hE.Γ s) :
    callω fns 17 [bAV 5 (some d), b.fv 9 1] hE = some (.tup [.agg [.int .i64 (lkK R.1), bAV 5 (oB (bl (lkB R.1)))], .int .i64 R.2.code], hE) ∧
    callω fns 18 [bAV 5 (some d), b.fv 9 1] hE = some (.tup [.agg [.int .i64 (lkK R.1), bAV 5 (oB (bl (lkB R.1)))], .int .i64 R.2.code], hE) := by
  have h0 : ∀ hE : H, Sens hE.Γ s → callω fns 36 [bAV 5 (some d), b.fv 9 1] hE = some (.tup [.agg (lkV R.1), R.2.av s], hE) := by
    intro hE hS
    rcases hb with hb | ⟨rfl, rfl⟩
    · rw [hb]; exact c_LookA p hpl d hl R hR hE hS
    · simp only [lkR] at hR
      injection hR with hR
      subst hR
      have hg2 := hS.g2
      simp only [sE] at hg2
      refine run36 (Nat.le_of_ble_eq_true rfl) ?_
      simp [RS.fv, hg2, glV, LkE.av, sE, lkV]
  have hrng : (0 ≤ lkK R.1 ∧ lkK R.1 < 256) ∧ (bl (lkB R.1)).length < 2147483648 := by
    cases hv : R.1 with
    | none => simp [lkK, lkB, bl]
    | some v => have := lkR_rng p d R v hR hv; simp only [lkK, lkB, bl]; exact ⟨this.1, by omega⟩
  rw [lkV_eq] at h0
  have hcode := fun (hE : H) (hS : Sens hE.Γ s) => c_code_lk (s := s) R.2 hS
  obtain ⟨q1, q2, q3, q4, q5, q6, q7, q8, q9, q10, q11⟩ := lkE_vk s R.2
  have hf := c_fromCore (lkK R.1) (lkB R.1)
  have hso := c_some1 (lkK R.1) hrng.1.1 hrng.1.2 (lkB R.1) hrng.2
  have hra := c_raw (lkK R.1) hrng.1.1 hrng.1.2 (lkB R.1) hrng.2
  generalize R.2.av s = V at *
  generalize R.2.code = C at *
  generalize lkK R.1 = K at *
  generalize lkB R.1 = B at *
  have h1 : ∀ hE : H, Sens hE.Γ s → callω fns 34 [bAV 5 (some d), b.fv 9 1] hE = some (.tup [.agg [.int .u8 K, bAV 5 B], V], hE) := by
    intro hE hS
    have h0' := h0 hE.mask hS
    refine run34 (Nat.le_of_ble_eq_true rfl) ?_
    simp [h0', hf, ex2_0, ex2_1, q1, q2, q3, q4, q5, q6, q7, q8, q9, q10, q11]
  have h1' := h1 hE.mask hS
  have h0' := h0 hE.mask hS
  have hc := hcode hE.mask hS
  constructor
  · refine run17 (Nat.le_of_ble_eq_true rfl) ?_
    simp [h1', hso, hc, ex2_0, ex2_1, q1, q2, q3, q4, q5, q6, q7, q8, q9, q10, q11]
  · refine run18 (Nat.le_of_ble_eq_true rfl) ?_
    simp [h0', hra, hc, ex2_0, ex2_1, q1, q2, q3, q4, q5, q6, q7, q8, q9, q10, q11]
end Go.Proofs.YtdnfnobgeddbfaaGreatDoor.Abs
