/- EB6, TR8, EB9 -/
import Derived.Test.YtdnfnobgeddbfaaDoorEB5
import Derived.Test.YtdnfnobgeddbfaaDoorTR7
/- The upper layer and the thin one, over a document of any bytes. -/
namespace Go.Proofs.YtdnfnobgeddbfaaDoor.Abs
set_option linter.all false
open Go.Proofs
set_option linter.unusedVariables false
set_option linter.unusedSimpArgs false
set_option maxRecDepth 100000
set_option maxHeartbeats 8000000

/-! ### Sentinels -/
def sE (p : Nat × Nat) : AV := .iface 174 (.sen p.1 p.2)
structure Sens (Γ : Nat → Option (List AV)) (s : Nat → Nat × Nat) : Prop where
  g0 : Γ 0 = some [sE (s 0)]
  g1 : Γ 1 = some [sE (s 1)]
  g2 : Γ 2 = some [sE (s 2)]
  g3 : Γ 3 = some [sE (s 3)]
  ne : ∀ i j, i < 4 → j < 4 → i ≠ j → s i ≠ s j
theorem c_Is (a b : Nat × Nat) (hE : H) : callω fns 52 [sE a, sE b] hE = some (.bool (decide (a = b)), hE) := by
  refine callω_x fns (af := af52) rfl (Nat.le_of_ble_eq_true rfl) ?_
  show isX [sE a, sE b] = _
  obtain ⟨a1, a2⟩ := a
  obtain ⟨b1, b2⟩ := b
  simp only [isX, sE, and_self, if_true, Prod.mk.injEq]
  congr 2
  by_cases h1 : a1 = b1 <;> by_cases h2 : a2 = b2 <;> simp [h1, h2]
def senC (i : Nat) : Int := if i = 0 then 7 else if i = 1 then 7 else if i = 2 then 8 else 11
theorem c_code_sen {s : Nat → Nat × Nat} {i : Nat} (hi : i < 4) {hE : H} (hS : Sens hE.Γ s) : callω fns 31 [sE (s i)] hE = some (.int .i64 (senC i), hE) := by
  obtain ⟨g0, g1, g2, g3, ne⟩ := hS
  refine run31 (Nat.le_of_ble_eq_true rfl) ?_
  have hI := c_Is
  have q : ∀ j, j < 4 → (decide (s i = s j)) = decide (i = j) := fun j hj => by
    by_cases h : i = j
    · subst h; simp
    · simp [h, ne i j hi hj h]
  have q0 := q 0 (by omega); have q1 := q 1 (by omega); have q2 := q 2 (by omega); have q3 := q 3 (by omega)
  have e : ∀ p, sE p = .iface 174 (.sen p.1 p.2) := fun _ => rfl
  simp only [e] at hI g0 g1 g2 g3 ⊢
  rcases (by omega : i = 0 ∨ i = 1 ∨ i = 2 ∨ i = 3) with rfl | rfl | rfl | rfl <;>
    simp only [Nat.reduceEqDiff, decide_true, decide_false] at q0 q1 q2 q3 <;>
    simp [taOk, exV, g0, g1, g2, g3, glV, hI, q0, q1, q2, q3, senC]
theorem c_code_nil : ∀ hE : H, callω fns 31 [.nilI] hE = some (.int .i64 0, hE) := c_code .nil
theorem c_code_few (a b) : ∀ hE : H, callω fns 31 [xFew a b] hE = some (.int .i64 1, hE) := c_code (.few a b)
theorem c_code_V (s : List UInt8) : ∀ hE : H, callω fns 31 [xVE s] hE = some (.int .i64 (if s = sLen then 2 else if s = sNull then 3 else 4), hE) := by
  intro hE
  refine run31 (Nat.le_of_ble_eq_true rfl) ?_
  by_cases h1 : s = sLen
  · simp [xVE, h1, taOk, exV, sLen]
  by_cases h2 : s = sNull
  · simp [xVE, h1, h2, taOk, exV, sLen, sNull]
  have h1' : (s == sLen) = false := by simpa using h1
  have h2' : (s == sNull) = false := by simpa using h2
  simp only [sLen] at h1 h1'
  simp only [sNull] at h2 h2'
  simp [xVE, h1, h2, h1', h2', taOk, exV, sLen, sNull]

def docC (l : List UInt8) : Int :=
  if okL l = false then 1 else if (l.length : Int) < num32 l then 4 else if num32 l < 5 then 2 else if (l[(num32 l - 1).toNat]?) ≠ some 0 then 3
  else if (dR l).2 = false then 1 else match elemsT (l.length + 1) (num32 l - 4) (l.drop 4) with | [] => 3 | c :: _ => if c = 0 then 0 else 3
theorem c_code_doc (l : List UInt8) : ∀ hE : H, callω fns 31 [docX l] hE = some (.int .i64 (docC l), hE) := by
  intro hE
  unfold docX docC
  split
  · exact c_code_few _ _ hE
  split
  · rw [c_code_V]; rfl
  split
  · rw [c_code_V]; rfl
  split
  · rw [c_code_V]; rfl
  split
  · exact c_code_few _ _ hE
  cases elemsT (l.length + 1) (num32 l - 4) (l.drop 4) with
  | nil => simp only [endX]; rw [c_code_V]; rfl
  | cons c r =>
    simp only [endX]
    split
    · exact c_code_nil hE
    · rw [c_code_V]; rfl
theorem docX_cases (l : List UInt8) : docX l = .nilI ∨ (∃ a b, docX l = xFew a b) ∨ ∃ s, docX l = xVE s := by
  unfold docX
  split
  · exact .inr (.inl ⟨_, _, rfl⟩)
  split
  · exact .inr (.inr ⟨_, rfl⟩)
  split
  · exact .inr (.inr ⟨_, rfl⟩)
  split
  · exact .inr (.inr ⟨_, rfl⟩)
  split
  · exact .inr (.inl ⟨_, _, rfl⟩)
  cases elemsT (l.length + 1) (num32 l - 4) (l.drop 4) with
  | nil => exact .inr (.inr ⟨_, rfl⟩)
  | cons c r =>
    simp only [endX]
    split
    · exact .inl rfl
    · exact .inr (.inr ⟨_, rfl⟩)
theorem c_RawValidate (l : List UInt8) (hl : l.length < 2147483648) : ∀ hE : H, callω fns 19 [bAV 5 (some l)] hE = some (.int .i64 (docC l), hE) := by
  intro hE
  have h1 := c_DocValidate l hl
  have h2 := c_code_doc l
  have h3 : ∀ hE : H, callω fns 43 [bAV 5 (some l)] hE = some (docX l, hE) := by
    intro hE
    refine run43 (Nat.le_of_ble_eq_true rfl) ?_
    rcases docX_cases l with h | ⟨a, b, h⟩ | ⟨s, h⟩ <;> rw [h] at h1 ⊢ <;> simp [h1, xFew, xVE]
  refine run19 (Nat.le_of_ble_eq_true rfl) ?_
  rcases docX_cases l with h | ⟨a, b, h⟩ | ⟨s, h⟩ <;> rw [h] at h2 h3 <;> (try simp only [xFew, xVE] at h2 h3) <;> simp [h2, h3]
theorem c_own (o : Option (List UInt8)) (h : (bl o).length < 2147483648) : ∀ hE : H, callω fns 40 [bAV 5 o] hE = some ((BS.mk (bl o)).av 5, hE) := by
  intro hE
  have ha : ∀ hp : H, apV hp 5 1 1 false (.slice .nil 0 1 []) (bAV 5 o) = some ((BS.mk (bl o)).av 5) := fun hp => by
    have := apV_b (hp := hp) (e := 5) (b := BS.nil) (o := o) (by simp only [BS.l, List.length_nil, tooLong]; omega)
    rw [BS.nil_app] at this; exact this
  refine run40 (Nat.le_of_ble_eq_true rfl) ?_
  simp [ha]

/-! ### Elements -/
theorem l_RawElements : ∀ (rest pre : List (List UInt8)) (L acc : RS) (st : St), st.s 25 = L.fv 118 1 → L.l = rowsC 5 (pre ++ rest) → st.s 26 = .int .i64 (pre ++ rest).length → st.s 27 = .int .i64 pre.length → st.s 7 = acc.av 83 1 →
    (pre ++ rest).length < 2147483648 → acc.l.length ≤ pre.length → ∀ Q : Ex × St → Prop, (∀ st' : St, st'.h = st.h → st'.s 7 = (acc.app (rowsC 5 rest)).av 83 1 → Q (.exit 0, st')) → LoopR fns lc39_0 st Q
  | [], pre, L, acc, st, h1, hL, h2, h3, h4, hl, hc, Q, hA => by
    refine loopω_run fns ?_
    simp [h2, h3]
    refine hA _ ?_ ?_ <;> simp [h4, RS.app_nil]
  | x :: rest, pre, L, acc, st, h1, hL, h2, h3, h4, hl, hc, Q, hA => by
    refine loopω_run fns ?_
    have hd : (pre.length : Int) < pre.length + (rest.length + 1) := by omega
    have hw : IntKind.i64.wrap ((pre.length : Int) + 1) = pre.length + 1 := wrap_i64 (by omega) (by simp at hl; omega)
    have hx := RS.fv_at' (e := 118) (b := L) (k := pre.length) (pre := rowsC 5 pre) (r := rowsC 5 rest) (x := bAV 5 (some x)) (by rw [hL, rowsC_append]; rfl) (by simp)
    have ha : ∀ hp : H, apV hp 83 1 24 false (acc.av 83 1) (.slice (.own true) 83 1 [bAV 5 (some x)]) = some ((acc.app [bAV 5 (some x)]).av 83 1) := fun hp =>
      RS.apV (by simp only [List.length_singleton, Nat.div_one, tooLong]; simp at hl; omega) (by simp only [List.length_singleton, tooLong]; simp at hl; omega)
    simp [h1, h2, h3, h4, hd, hx, ha, hw]
    refine l_RawElements rest (pre ++ [x]) L (acc.app [bAV 5 (some x)]) _ ?_ ?_ ?_ ?_ ?_ ?_ ?_ Q (fun st' k1 k2 => hA st' ?_ ?_)
    · simp [h1]
    · rw [hL]; simp
    · simp [h2]
    · simp
    · simp
    · simpa using hl
    · rw [RS.l_app]; simp; omega
    · rw [k1]
    · rw [k2, RS.app_app]; rfl
theorem l_impRawElements : ∀ (rest pre : List (List UInt8)) (L acc : RS) (st : St), st.s 14 = L.fv 83 1 → L.l = rowsC 5 (pre ++ rest) → st.s 15 = .int .i64 (pre ++ rest).length → st.s 16 = .int .i64 pre.length → st.s 6 = acc.av 23 1 →
    (pre ++ rest).length < 2147483648 → (∀ e ∈ rest, e.length < 2147483648 ∧ e ≠ []) → acc.l.length ≤ pre.length → ∀ Q : Ex × St → Prop, (∀ st' : St, st'.h = st.h → st'.s 5 = st.s 5 → st'.s 6 = (acc.app (rowsC 5 rest)).av 23 1 → Q (.exit 0, st')) → LoopR fns lc17_0 st Q
  | [], pre, L, acc, st, h1, hL, h2, h3, h4, hl, hr, hc, Q, hA => by
    refine loopω_run fns ?_
    simp [h2, h3]
    refine hA _ ?_ ?_ ?_ <;> simp [h4, RS.app_nil]
  | x :: rest, pre, L, acc, st, h1, hL, h2, h3, h4, hl, hr, hc, Q, hA => by
    refine loopω_run fns ?_
    have hd : (pre.length : Int) < pre.length + (rest.length + 1) := by omega
    have hw : IntKind.i64.wrap ((pre.length : Int) + 1) = pre.length + 1 := wrap_i64 (by omega) (by simp at hl; omega)
    have hx := RS.fv_at' (e := 83) (b := L) (k := pre.length) (pre := rowsC 5 pre) (r := rowsC 5 rest) (x := bAV 5 (some x)) (by rw [hL, rowsC_append]; rfl) (by simp)
    obtain ⟨hxl, hxn⟩ := hr x List.mem_cons_self
    have ho := c_own (some x) hxl
    simp only [bl] at ho
    have e1 : (BS.mk x).opt = some x := oB_some hxn
    have ha : ∀ hp : H, apV hp 23 1 24 false (acc.av 23 1) (.slice (.own true) 23 1 [bAV 5 (some x)]) = some ((acc.app [bAV 5 (some x)]).av 23 1) := fun hp =>
      RS.apV (by simp only [List.length_singleton, Nat.div_one, tooLong]; simp at hl; omega) (by simp only [List.length_singleton, tooLong]; simp at hl; omega)
    simp [h1, h2, h3, h4, hd, hx, ha, hw, ho, e1]
    refine l_impRawElements rest (pre ++ [x]) L (acc.app [bAV 5 (some x)]) _ ?_ ?_ ?_ ?_ ?_ ?_ (fun e he => hr e (List.mem_cons_of_mem _ he)) ?_ Q (fun st' k1 k0 k2 => hA st' ?_ ?_ ?_)
    · simp [h1]
    · rw [hL]; simp
    · simp [h2]
    · simp
    · simp
    · simpa using hl
    · rw [RS.l_app]; simp; omega
    · rw [k1]
    · rw [k0]; simp
    · rw [k2, RS.app_app]; rfl

theorem RS.own_app (f : Bool) (xs ys : List AV) : (RS.own f xs).app ys = RS.own f (xs ++ ys) := by cases ys <;> rfl
theorem c_RawElems (l : List UInt8) (hne : l ≠ []) (hl : l.length < 2147483648) : ∀ hE : H, callω fns 39 [bAV 5 (some l)] hE =
    some (if okL l = true ∧ (dR l).2 = true then .tup [(RS.own true (rowsC 5 (dR l).1)).av 83 1, .nilI] else .tup [.slice .nil 0 1 [], if okL l then xFew (dE eDat l).1 (dE eDat l).2 else xFew (some l) (rest4 (some l))], hE) := by
  intro hE
  have h := c_Elements l hl
  have hlen : (dR l).1.length ≤ l.length := by
    have := (elemsR_len (l.length + 1) (num32 l - 4) (l.drop 4)).2
    rw [List.length_drop] at this
    unfold dR; omega
  have g0 : ¬ (l.length : Int) = 0 := by
    intro e
    have : l.length = 0 := by omega
    exact hne (List.length_eq_zero_iff.1 this)
  generalize dR l = R at *
  generalize dE eDat l = E at *
  obtain ⟨es, ok⟩ := R
  simp only at *
  refine run39 (Nat.le_of_ble_eq_true rfl) ?_
  cases hk : okL l with
  | false =>
    rw [hk] at h
    simp only [Bool.false_eq_true, if_false, xFew] at h
    simp [bl, hne, h, ex2_0, ex2_1, xFew]
  | true =>
    rw [hk] at h
    simp only [if_true] at h
    cases ok with
    | false =>
      simp only [Bool.false_eq_true, if_false, xFew] at h
      simp [bl, hne, h, ex2_0, ex2_1, xFew]
    | true =>
      simp only [if_true] at h
      have hL : (RS.mk (rowsC 5 es)).l = rowsC 5 es := RS.l_mk _
      have hn : aLen false ((RS.mk (rowsC 5 es)).lv 118 1) = some (.int .i64 es.length) := RS.lv_len (by omega) (by rw [hL]; simp)
      have hn2 : aLen false ((RS.mk (rowsC 5 es)).fv 118 1) = some (.int .i64 es.length) := RS.fv_len (by omega) (by rw [hL]; simp)
      generalize RS.mk (rowsC 5 es) = L at *
      have hmk : ∀ st : St, mkV false 83 1 24 [.slice .nil 0 1 []] (.int .i64 0) (.int .i64 es.length) st = some ((RS.own true []).av 83 1, st) := fun st => by
        simp only [mkV, mkN]
        rw [if_pos ⟨trivial, trivial, by omega, by omega, by simp only [tooLong]; omega, by simp only [tooLong]; omega⟩]
        simp [RS.av, repCells]
      simp [bl, hne, h, ex2_0, ex2_1, hn, hn2, hmk]
      refine l_RawElements es [] L (RS.own true []) _ ?_ ?_ ?_ ?_ ?_ ?_ ?_ _ (fun st' k1 k2 => ?_)
      · simp
      · simpa using hL
      · simp
      · simp
      · simp
      · simp; omega
      · simp [RS.l]
      · rw [RS.own_app, List.nil_append] at k2
        simp [k1, k2]
theorem c_impElems (l : List UInt8) (hne : l ≠ []) (hl : l.length < 2147483648) : ∀ hE : H, callω fns 17 [bAV 5 (some l)] hE =
    some (if okL l = true ∧ (dR l).2 = true then .tup [(RS.mk (rowsC 5 (dR l).1)).av 23 1, .bool true] else .tup [.slice .nil 0 1 [], .bool false], hE) := by
  intro hE
  have h := c_RawElems l hne hl
  have hlen : (dR l).1.length ≤ l.length := by
    have := (elemsR_len (l.length + 1) (num32 l - 4) (l.drop 4)).2
    rw [List.length_drop] at this
    unfold dR; omega
  have hmem : ∀ e ∈ (dR l).1, e.length < 2147483648 ∧ e ≠ [] := by
    intro e he
    have h1 := mem_flat_len he
    have h2 := (elemsR_len (l.length + 1) (num32 l - 4) (l.drop 4)).1
    rw [List.length_drop] at h2
    exact ⟨by unfold dR at h1; omega, elemsR_ne _ _ _ e he⟩
  generalize dR l = R at *
  generalize dE eDat l = E at *
  obtain ⟨es, ok⟩ := R
  simp only at *
  refine run17 (Nat.le_of_ble_eq_true rfl) ?_
  by_cases hc : okL l = true ∧ ok = true
  · rw [if_pos hc] at h ⊢
    have hL : (RS.own true (rowsC 5 es)).l = rowsC 5 es := rfl
    have hn : aLen false ((RS.own true (rowsC 5 es)).lv 83 1) = some (.int .i64 es.length) := RS.lv_len (by omega) (by rw [hL]; simp)
    have hn2 : aLen false ((RS.own true (rowsC 5 es)).fv 83 1) = some (.int .i64 es.length) := RS.fv_len (by omega) (by rw [hL]; simp)
    generalize RS.own true (rowsC 5 es) = L at *
    simp [h, ex2_0, ex2_1, hn, hn2]
    refine l_impRawElements es [] L RS.nil _ ?_ ?_ ?_ ?_ ?_ ?_ hmem ?_ _ (fun st' k1 k0 k2 => ?_)
    · simp
    · simpa using hL
    · simp
    · simp
    · simp [RS.av]
    · simp; omega
    · simp [RS.l]
    · rw [RS.nil_app] at k2
      simp at k0
      simp [k1, k2, k0]
  · rw [if_neg hc] at h ⊢
    have he : ∃ a b, (if okL l = true then xFew E.1 E.2 else xFew (some l) (rest4 (some l))) = xFew a b := by split; { exact ⟨_, _, rfl⟩ }; { exact ⟨_, _, rfl⟩ }
    obtain ⟨a, b, he⟩ := he
    rw [he] at h
    simp only [xFew] at h
    simp [h, ex2_0, ex2_1]
    refine l_impRawElements [] [] RS.nil RS.nil _ ?_ ?_ ?_ ?_ ?_ ?_ (fun e he => by cases he) ?_ _ (fun st' k1 k0 k2 => ?_)
    · simp [RS.fv]
    · simp [RS.l]
    · simp
    · simp
    · simp [RS.av]
    · simp
    · simp [RS.l]
    · simp [RS.app_nil, RS.av] at k2
      simp at k0
      simp [k1, k2, k0]
end Go.Proofs.YtdnfnobgeddbfaaDoor.Abs

/- Right documents' bytes: what is read of them. -/
namespace Go.Proofs.YtdnfnobgeddbfaaDoor.Abs
set_option linter.all false

theorem num32_le32 {m : Int} {r : List UInt8} (h0 : -2147483648 ≤ m) (h1 : m < 2147483648) : num32 (le32 m ++ r) = m := by
  show rd32 _ _ _ _ = m
  exact rd32_le32 h0 h1
theorem lenD_le32 {m d : Int} {r : List UInt8} (h0 : 0 ≤ m) (hd : 0 ≤ d) (h1 : m + d < 2147483648) : lenD d (le32 m ++ r) = some (m + d).toNat := by
  unfold lenD
  rw [num32_le32 (by omega) (by omega), if_pos ⟨by simp [le32_length], h0, h1⟩]
theorem knownK_cases {k : Int} (h : knownK k = true) : k = 1 ∨ k = 2 ∨ k = 3 ∨ k = 4 ∨ k = 5 ∨ k = 6 ∨ k = 7 ∨ k = 8 ∨ k = 9 ∨ k = 10 ∨ k = 11 ∨ k = 12 ∨ k = 13 ∨ k = 14 ∨ k = 15 ∨ k = 16 ∨ k = 17 ∨ k = 18 ∨ k = 19 ∨ k = 127 ∨ k = 255 := by
  simp [knownK] at h; omega
theorem kind_range {v : Tr} {d : Nat} (h : v.right d = true) : 0 ≤ v.kind ∧ v.kind < 256 := by
  cases v with
  | mk k t m n bi hi bb kn ks =>
  simp only [Tr.right, Bool.and_eq_true] at h
  have := knownK_cases h.1
  simp only [Tr.kind]; omega
theorem rxLen_regex {t m r : List UInt8} (ht : plainL t = true) (hm : plainL m = true) : rxLen (t ++ (0 :: (m ++ [0])) ++ r) = some (t.length + m.length + 2) := by
  unfold rxLen
  rw [List.append_assoc, List.cons_append, nul_plain ht]
  have e : (t ++ 0 :: ((m ++ [0]) ++ r)).drop (t.length + 1) = m ++ 0 :: r := by
    rw [List.drop_append]
    simp
  simp only [Option.bind_some, e, nul_plain hm, Option.map_some]
  congr 1; omega
/-- A right value is as long as its bytes say. -/
theorem vLen_val (v : Tr) {dd : Nat} (hR : v.right dd = true) (hs : v.sz ≤ 1000000000) (r : List UInt8) : vLen v.kind (v.val ++ r) = some v.val.length := by
  cases v with
  | mk k t m n bi hi bb kn ks =>
  simp only [Tr.right, Bool.and_eq_true] at hR
  obtain ⟨hk, hd, hbare, hR⟩ := hR
  have hb := Ks.body_le ks
  simp only [Tr.sz, Tr.nb, Tr.nodes] at hs
  have htl := txtL_length t
  simp only [Tr.kind]
  have txt : ∀ r : List UInt8, txtL t ++ r = le32 (t.length + 1) ++ (t ++ [0] ++ r) := fun r => by simp [txtL]
  have nat : ∀ {a : Int} {b : Nat}, a = b → some a.toNat = some b := fun h => by rw [h]; rfl
  rcases knownK_cases hk with rfl | rfl | rfl | rfl | rfl | rfl | rfl | rfl | rfl | rfl | rfl | rfl | rfl | rfl | rfl | rfl | rfl | rfl | rfl | rfl | rfl
  · rfl
  · have hv : (Tr.mk 2 t m n bi hi bb kn ks).val = txtL t := by simp [Tr.val]
    rw [hv]; show lenD 4 _ = _
    rw [txt, lenD_le32 (by omega) (by omega) (by omega)]; exact nat (by rw [htl]; omega)
  · have hv : (Tr.mk 3 t m n bi hi bb kn ks).val = le32 ((ks.body.length : Int) + 5) ++ (ks.body ++ [0]) := by simp [Tr.val]
    rw [hv]; show lenD 0 _ = _
    rw [List.append_assoc, lenD_le32 (by omega) (by omega) (by omega)]; exact nat (by simp [le32_length]; omega)
  · have hv : (Tr.mk 4 t m n bi hi bb kn ks).val = le32 ((ks.body.length : Int) + 5) ++ (ks.body ++ [0]) := by simp [Tr.val]
    rw [hv]; show lenD 0 _ = _
    rw [List.append_assoc, lenD_le32 (by omega) (by omega) (by omega)]; exact nat (by simp [le32_length]; omega)
  · by_cases n2 : n = 2
    · subst n2
      have hv : (Tr.mk 5 t m 2 bi hi bb kn ks).val = le32 (((bl bb).length : Int) + 4) ++ (2 :: (le32 (bl bb).length ++ bl bb)) := by simp [Tr.val]
      rw [hv]; show lenD 5 _ = _
      rw [List.append_assoc, lenD_le32 (by omega) (by omega) (by omega)]; exact nat (by simp [le32_length]; omega)
    · have hv : (Tr.mk 5 t m n bi hi bb kn ks).val = le32 ((bl bb).length : Int) ++ (byteOf n :: bl bb) := by simp [Tr.val, n2]
      rw [hv]; show lenD 5 _ = _
      rw [List.append_assoc, lenD_le32 (by omega) (by omega) (by omega)]; exact nat (by simp [le32_length]; omega)
  · rfl
  · simp only [Int.reduceEq, if_false, or_self, or_false, if_true, true_or, decide_eq_true_eq] at hR
    have hv : (Tr.mk 7 t m n bi hi bb kn ks).val = bl bb := by simp [Tr.val]
    rw [hv, hR]; rfl
  · rfl
  · rfl
  · rfl
  · simp at hR
    have hv : (Tr.mk 11 t m n bi hi bb kn ks).val = t ++ (0 :: (m ++ [0])) := by simp [Tr.val]
    rw [hv]; show rxLen _ = _
    rw [rxLen_regex hR.1 hR.2]; simp; omega
  · simp at hR
    have hv : (Tr.mk 12 t m n bi hi bb kn ks).val = txtL t ++ bl bb := by simp [Tr.val]
    rw [hv]; show lenD 16 _ = _
    rw [List.append_assoc, txt, lenD_le32 (by omega) (by omega) (by omega)]; exact nat (by rw [List.length_append, htl, hR]; omega)
  · have hv : (Tr.mk 13 t m n bi hi bb kn ks).val = txtL t := by simp [Tr.val]
    rw [hv]; show lenD 4 _ = _
    rw [txt, lenD_le32 (by omega) (by omega) (by omega)]; exact nat (by rw [htl]; omega)
  · have hv : (Tr.mk 14 t m n bi hi bb kn ks).val = txtL t := by simp [Tr.val]
    rw [hv]; show lenD 4 _ = _
    rw [txt, lenD_le32 (by omega) (by omega) (by omega)]; exact nat (by rw [htl]; omega)
  · have hv : (Tr.mk 15 t m n bi hi bb kn ks).val = le32 (4 + (txtL t).length + ((Ks.body ks).length + 5)) ++ (txtL t ++ (le32 ((Ks.body ks).length + 5) ++ (Ks.body ks ++ [0]))) := by simp [Tr.val]
    rw [hv]; show lenD 0 _ = _
    rw [List.append_assoc, lenD_le32 (by omega) (by omega) (by omega)]; exact nat (by simp [le32_length]; omega)
  · rfl
  · rfl
  · rfl
  · rfl
  · rfl
  · rfl
/-- It has at least four bytes, if it is one that says so. -/
theorem val_four (v : Tr) (hk : v.kind = 3 ∨ v.kind = 4 ∨ v.kind = 15) : 4 ≤ v.val.length := by
  cases v with
  | mk k t m n bi hi bb kn ks =>
  simp only [Tr.kind] at hk
  rcases hk with rfl | rfl | rfl <;> simp [Tr.val, le32_length] <;> omega
theorem vGet_val (v : Tr) {dd : Nat} (hR : v.right dd = true) (hs : v.sz ≤ 1000000000) (r : List UInt8) : vGet v.kind (v.val ++ r) = some v.val.length := by
  simp only [vGet, vLen_val v hR hs r, Option.bind_some, List.length_append]
  rw [if_pos (by omega)]
theorem byteOf_kind {v : Tr} {dd : Nat} (hR : v.right dd = true) : ((byteOf v.kind).toNat : Int) = v.kind := by
  have := kind_range hR
  rw [byteOf_toNat]; omega
theorem elemL_length (nm : List UInt8) (v : Tr) : (elemL nm v).length = nm.length + 2 + v.val.length := by simp [elemL, hdL_length]
theorem elemL_eq (nm : List UInt8) (v : Tr) (r : List UInt8) : elemL nm v ++ r = byteOf v.kind :: (nm ++ 0 :: (v.val ++ r)) := by simp [elemL, hdL]
/-- An element ahead of anything. -/
theorem eGet_elem {nm : List UInt8} {v : Tr} {dd : Nat} (hp : plainL nm = true) (hR : v.right dd = true) (hs : v.sz ≤ 1000000000) (r : List UInt8) : eGet (elemL nm v ++ r) = some (elemL nm v).length := by
  rw [elemL_eq, elemL_length]
  show (nul (nm ++ 0 :: (v.val ++ r))).bind _ = _
  rw [nul_plain hp]
  have e : (nm ++ 0 :: (v.val ++ r)).drop (nm.length + 1) = v.val ++ r := by rw [List.drop_append]; simp
  simp only [Option.bind_some, e, byteOf_kind hR, vLen_val v hR hs r]
  rw [if_pos (by simp; omega)]
theorem eParts_elem {nm : List UInt8} {v : Tr} (hp : plainL nm = true) : eParts (elemL nm v) = some (byteOf v.kind, nm, v.val) := by
  have h := elemL_eq nm v []
  rw [List.append_nil, List.append_nil] at h
  rw [h]
  show (nul (nm ++ 0 :: v.val)).map _ = _
  rw [nul_plain hp]
  simp
theorem eOk_elem {nm : List UInt8} {v : Tr} {dd : Nat} (hp : plainL nm = true) (hR : v.right dd = true) (hs : v.sz ≤ 1000000000) : eOk (elemL nm v) = true := by
  unfold eOk
  rw [eParts_elem hp]
  simp only [byteOf_kind hR]
  have := vGet_val v hR hs []
  rw [List.append_nil] at this
  rw [this]; rfl
theorem kv_elem {nm : List UInt8} {v : Tr} {dd : Nat} (hp : plainL nm = true) (hR : v.right dd = true) : kv (elemL nm v) = (v.kind, v.val) := by
  unfold kv
  rw [eParts_elem hp]
  simp only [byteOf_kind hR]

/-- Names and values that are right, whatever holds them. -/
def Ks.good : Ks → Prop
  | .nil => True
  | .cons nm v r => plainL nm = true ∧ (∃ d, v.right d = true) ∧ Ks.good r
theorem Ks.right_good : ∀ {ks : Ks} {arr : Bool} {i d : Nat}, ks.right arr i d = true → ks.good
  | .nil, _, _, _, _ => trivial
  | .cons nm v r, arr, i, d, h => by
    simp only [Ks.right, Bool.and_eq_true] at h
    exact ⟨h.1, ⟨d, h.2.2.1⟩, Ks.right_good h.2.2.2⟩
theorem Ks.sz_cons (nm : List UInt8) (v : Tr) (r : Ks) : (Ks.cons nm v r).sz = nm.length + v.sz + r.sz := by simp only [Ks.sz, Tr.sz, Ks.nb, Ks.nodes]; omega
theorem elemsR_body : ∀ (ks : Ks) (f : Nat) (e : List UInt8), ks.good → ks.sz ≤ 1000000000 → ks.body.length < f → e.length ≤ 1 →
    elemsR f (ks.body.length + e.length : Nat) (ks.body ++ e) = (ks.elems, true) ∧ elemsT f (ks.body.length + e.length : Nat) (ks.body ++ e) = e ∧
    ∀ k, elemAt f (ks.body.length + e.length : Nat) (ks.body ++ e) k = (match ks.elems[k]? with | some x => (0, x) | none => (2, []))
  | .nil, f + 1, e, _, _, _, he => by
    simp only [Ks.body, List.length_nil, Nat.zero_add, List.nil_append, elemsR, elemsT, elemAt, Ks.elems]
    have : ((e.length : Nat) : Int) ≤ 1 := by omega
    rw [if_pos this, if_pos this]
    refine ⟨rfl, rfl, fun k => ?_⟩
    rw [if_pos this]; rfl
  | .cons nm v r, f + 1, e, hg, hs, hf, he => by
    obtain ⟨hp, ⟨d, hR⟩, hgr⟩ := hg
    rw [Ks.sz_cons] at hs
    have hb : (Ks.cons nm v r).body ++ e = elemL nm v ++ (r.body ++ e) := by simp [Ks.body, elemL, hdL]
    have hbl : (Ks.cons nm v r).body.length = (elemL nm v).length + r.body.length := by simp [Ks.body, elemL, hdL]; omega
    have hel := elemL_length nm v
    have hge := eGet_elem hp hR (by omega) (r.body ++ e)
    have hok := eOk_elem hp hR (by omega : v.sz ≤ 1000000000)
    have hn : ¬ (((Ks.cons nm v r).body.length + e.length : Nat) : Int) ≤ 1 := by omega
    have htk : (elemL nm v ++ (r.body ++ e)).take (elemL nm v).length = elemL nm v := by simp
    have hdr : (elemL nm v ++ (r.body ++ e)).drop (elemL nm v).length = r.body ++ e := by simp
    have hnn : ((((Ks.cons nm v r).body.length + e.length : Nat) : Int) - ((elemL nm v).length : Nat)) = ((r.body.length + e.length : Nat) : Int) := by omega
    obtain ⟨i1, i2, i3⟩ := elemsR_body r f e hgr (by omega) (by omega) he
    simp only [elemsR, elemsT, elemAt, hb]
    rw [if_neg hn, if_neg hn]
    simp only [hge, htk, hdr, hok, if_true, hnn, i1, i2, Ks.elems]
    refine ⟨trivial, trivial, fun k => ?_⟩
    rw [if_neg hn]
    cases k with
    | zero => rfl
    | succ k => simp only [i3]; rfl
  | ks, 0, e, _, _, hf, _ => by omega
theorem doc_num (ks : Ks) (hs : ks.sz ≤ 1000000000) : num32 ks.doc = ks.body.length + 5 ∧ ks.doc.drop 4 = ks.body ++ [0] := by
  have hb := Ks.body_le ks
  simp only [Ks.sz] at hs
  refine ⟨?_, rfl⟩
  unfold Ks.doc
  rw [num32_le32 (by omega) (by omega)]
end Go.Proofs.YtdnfnobgeddbfaaDoor.Abs

/- Names that lead into a right document. -/
namespace Go.Proofs.YtdnfnobgeddbfaaDoor.Abs
set_option linter.all false
open Go.Proofs
set_option linter.unusedVariables false
set_option linter.unusedSimpArgs false
set_option maxRecDepth 100000
set_option maxHeartbeats 8000000

def Ks.find (nm : List UInt8) : Ks → Option Tr
  | .nil => none
  | .cons n v r => if n = nm then some v else Ks.find nm r
def Tr.kids : Tr → Ks
  | .mk _ _ _ _ _ _ _ _ ks => ks
theorem Tr.val_kids {v : Tr} (h : v.kind = 3 ∨ v.kind = 4) : v.val = v.kids.doc := by
  cases v with
  | mk k t m n bi hi b kn ks =>
    simp only [Tr.kind] at h
    rcases h with rfl | rfl <;> simp [Tr.val, Tr.kids, Ks.doc]
theorem Tr.kids_good {v : Tr} {d : Nat} (h : v.kind = 3 ∨ v.kind = 4) (hr : v.right d = true) : v.kids.good := by
  cases v with
  | mk k t m n bi hi b kn ks =>
    simp only [Tr.kind] at h
    simp only [Tr.right, Bool.and_eq_true] at hr
    have h2 := hr.2.2.2
    have e1 : ¬ k = 5 := by omega
    have e2 : ¬ (k = 7 ∨ k = 12) := by omega
    have e3 : ¬ k = 8 := by omega
    have e4 : ¬ k = 16 := by omega
    have e5 : ¬ k = 11 := by omega
    rw [if_neg e1, if_neg e2, if_neg e3, if_neg e4, if_neg e5] at h2
    exact Ks.right_good h2
theorem Tr.kids_sz (v : Tr) : v.kids.sz ≤ v.sz := by
  cases v with
  | mk k t m n bi hi b kn ks =>
    simp only [Tr.kids, Tr.sz, Ks.sz, Tr.nb, Tr.nodes]
    omega
def strsA (l : List (List UInt8)) : AV := .slice .frz 9 1 (l.map AV.str)
def xDep (a : List UInt8) (k : Int) : AV := .iface 105 (.agg [.str a, .int .u8 k])
def lookE (s : Nat → Nat × Nat) : List (List UInt8) → Ks → AV
  | [], _ => .nilI
  | a :: r, ks => match ks.find a with
    | none => sE (s 1)
    | some v => if r = [] then .nilI else if v.kind = 3 ∨ v.kind = 4 then lookE s r v.kids else xDep a v.kind
def lookT : List (List UInt8) → Ks → Option Tr
  | [], _ => none
  | a :: r, ks => match ks.find a with
    | none => none
    | some v => if r = [] then some v else if v.kind = 3 ∨ v.kind = 4 then lookT r v.kids else none
def lookV (o : Option Tr) : List AV := match o with | some v => [.int .u8 v.kind, bAV 5 (some v.val)] | none => [.int .u8 0, .slice .nil 0 1 []]
theorem c_code_dep (a : List UInt8) (k : Int) : ∀ hE : H, callω fns 31 [xDep a k] hE = some (.int .i64 10, hE) := by
  intro hE
  refine run31 (Nat.le_of_ble_eq_true rfl) ?_
  simp [xDep, taOk, exV]

theorem c_rlb (K : Ks) (hs : K.sz ≤ 90000) : ∀ hE : H, callω fns 90 [bAV 5 (some K.doc)] hE = some (.tup [bAV 5 (some K.doc), bAV 5 (some []), .bool true], hE) := by
  intro hE
  obtain ⟨n1, n2⟩ := doc_num K (by omega)
  have hlen := Ks.doc_length K
  have hb := Ks.body_le K
  have hsz : K.sz = K.nb + 18 * K.nodes := rfl
  have hR := c_RLen (some K.doc)
  simp only [bl] at hR
  have hk : okL K.doc = true := by unfold okL; rw [n1, hlen]; simp; omega
  rw [n1, hk, rest4_some (by omega)] at hR
  have hlt : ¬ ((K.body.length : Int) + 5 < 4) := by omega
  have hln : (K.doc.length : Int) = (K.body.length : Int) + 5 := by omega
  have w : IntKind.i64.wrap ((K.body.length : Int) + 5) = K.body.length + 5 := wrap_i64 (by omega) (by omega)
  have s1 : ∀ hp : H, slSl hp 1 (bAV 5 (some K.doc)) (some 0) (some ((K.body.length : Int) + 5)) = some (bAV 5 (some K.doc)) := fun hp => by
    have := sl_to (hp := hp) (e := 5) (l := K.doc) (m := K.doc.length) (Nat.le_refl _)
    rw [hln, List.take_length] at this; exact this
  have s2 : ∀ hp : H, slSl hp 1 (bAV 5 (some K.doc)) (some ((K.body.length : Int) + 5)) (some ((K.body.length : Int) + 5)) = some (bAV 5 (some [])) := fun hp => by
    have := sl_from (hp := hp) (e := 5) (l := K.doc) (m := K.doc.length) (Nat.le_refl _)
    rw [hln, List.drop_length] at this; exact this
  generalize K.doc = D at *
  generalize (K.body.length : Int) + 5 = N at *
  refine run90 (Nat.le_of_ble_eq_true rfl) ?_
  simp [hR, hlt, hln, w, s1, s2, bl, ex3_0, ex3_1, ex3_2]
theorem c_ValDoc (K : Ks) (hs : K.sz ≤ 90000) : ∀ hE : H, callω fns 75 [.agg [.int .u8 3, bAV 5 (some K.doc)]] hE = some (bAV 5 (some K.doc), hE) := by
  intro hE
  have h := c_rlb K hs
  have h2 : ∀ hE : H, callω fns 86 [bAV 5 (some K.doc)] hE = some (.tup [bAV 5 (some K.doc), bAV 5 (some []), .bool true], hE) := by
    intro hE
    refine run86 (Nat.le_of_ble_eq_true rfl) ?_
    simp [h, ex3_0, ex3_1, ex3_2]
  refine run75 (Nat.le_of_ble_eq_true rfl) ?_
  simp [h2, ex3_0, ex3_1, ex3_2]
theorem c_ValArr (K : Ks) (hs : K.sz ≤ 90000) : ∀ hE : H, callω fns 76 [.agg [.int .u8 4, bAV 5 (some K.doc)]] hE = some (bAV 5 (some K.doc), hE) := by
  intro hE
  have h := c_rlb K hs
  have h2 : ∀ hE : H, callω fns 87 [bAV 5 (some K.doc)] hE = some (.tup [bAV 5 (some K.doc), bAV 5 (some []), .bool true], hE) := by
    intro hE
    refine run87 (Nat.le_of_ble_eq_true rfl) ?_
    simp [h, ex3_0, ex3_1, ex3_2]
  refine run76 (Nat.le_of_ble_eq_true rfl) ?_
  simp [h2, ex3_0, ex3_1, ex3_2]
end Go.Proofs.YtdnfnobgeddbfaaDoor.Abs
