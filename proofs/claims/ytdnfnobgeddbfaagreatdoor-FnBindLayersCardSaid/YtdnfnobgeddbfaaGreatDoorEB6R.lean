/- The upper layer, over a document of any bytes. -/
import Derived.Test.YtdnfnobgeddbfaaGreatDoorEB8
namespace Go.Proofs.YtdnfnobgeddbfaaGreatDoor.Abs
set_option linter.all false
open Go.Proofs
set_option linter.unusedVariables false
set_option linter.unusedSimpArgs false
set_option maxRecDepth 100000
set_option maxHeartbeats 8000000

theorem c_RawValidate (l : List UInt8) (hl : l.length < 2147483648) : ∀ hE : H, callω fns 8 [bAV 5 (some l)] hE = some (.int .i64 (docC l), hE) := by
  intro hE
  have h1 := c_DocValidate l hl
  have h2 := c_code_doc l
  have h3 : ∀ hE : H, callω fns 24 [bAV 5 (some l)] hE = some (docX l, hE) := by
    intro hE
    refine run24 (Nat.le_of_ble_eq_true rfl) ?_
    rcases docX_cases l with h | ⟨a, b, h⟩ | ⟨s, h⟩ <;> rw [h] at h1 ⊢ <;> simp [h1, xFew, xVE]
  refine run8 (Nat.le_of_ble_eq_true rfl) ?_
  rcases docX_cases l with h | ⟨a, b, h⟩ | ⟨s, h⟩ <;> rw [h] at h2 h3 <;> (try simp only [xFew, xVE] at h2 h3) <;> simp [h2, h3]
/-! ### Elements -/
theorem l_RawElements : ∀ (rest pre : List (List UInt8)) (L acc : RS) (st : St), st.s 25 = L.fv 56 1 → L.l = rowsC 5 (pre ++ rest) → st.s 26 = .int .i64 (pre ++ rest).length → st.s 27 = .int .i64 pre.length → st.s 7 = acc.av 50 1 →
    (pre ++ rest).length < 2147483648 → acc.l.length ≤ pre.length → ∀ Q : Ex × St → Prop, (∀ st' : St, st'.h = st.h → st'.s 7 = (acc.app (rowsC 5 rest)).av 50 1 → Q (.exit 0, st')) → LoopR fns lc20_0 st Q
  | [], pre, L, acc, st, h1, hL, h2, h3, h4, hl, hc, Q, hA => by
    refine loopω_run fns ?_
    simp [h2, h3]
    refine hA _ ?_ ?_ <;> simp [h4, RS.app_nil]
  | x :: rest, pre, L, acc, st, h1, hL, h2, h3, h4, hl, hc, Q, hA => by
    refine loopω_run fns ?_
    have hd : (pre.length : Int) < pre.length + (rest.length + 1) := by omega
    have hw : IntKind.i64.wrap ((pre.length : Int) + 1) = pre.length + 1 := wrap_i64 (by omega) (by simp at hl; omega)
    have hx := RS.fv_at' (e := 56) (b := L) (k := pre.length) (pre := rowsC 5 pre) (r := rowsC 5 rest) (x := bAV 5 (some x)) (by rw [hL, rowsC_append]; rfl) (by simp)
    have ha : ∀ hp : H, apV hp 50 1 24 false (acc.av 50 1) (.slice (.own true) 50 1 [bAV 5 (some x)]) = some ((acc.app [bAV 5 (some x)]).av 50 1) := fun hp =>
      RS.apV (by simp only [List.length_singleton, Nat.div_one, tooLong]; simp at hl; omega) (by simp only [List.length_singleton, tooLong]; simp at hl; omega)
    simp [h1, h2, h3, h4, hd, hx, ha, hw]
    refine l_RawElements rest (pre ++ [x]) L (acc.app [bAV 5 (some x)]) _ ?_ ?_ ?_ ?_ ?_ ?_ ?_ Q (fun st' k1 k2 => hA st' ?_ ?_)
    · simp [h1]
    · rw [hL]; simp
    · simp [h2]
    · simp
    · simp
    · simpa using hl
    · rw [RS.l_app]; simp; omega
    · rw [k1]
    · rw [k2, RS.app_app]; rfl
theorem l_impRawElements : ∀ (rest pre : List (List UInt8)) (L acc : RS) (st : St), st.s 14 = L.fv 50 1 → L.l = rowsC 5 (pre ++ rest) → st.s 15 = .int .i64 (pre ++ rest).length → st.s 16 = .int .i64 pre.length → st.s 6 = acc.av 22 1 →
    (pre ++ rest).length < 2147483648 → (∀ e ∈ rest, e.length < 2147483648 ∧ e ≠ []) → acc.l.length ≤ pre.length → ∀ Q : Ex × St → Prop, (∀ st' : St, st'.h = st.h → st'.s 5 = st.s 5 → st'.s 6 = (acc.app (rowsC 5 rest)).av 22 1 → Q (.exit 0, st')) → LoopR fns lc5_0 st Q
  | [], pre, L, acc, st, h1, hL, h2, h3, h4, hl, hr, hc, Q, hA => by
    refine loopω_run fns ?_
    simp [h2, h3]
    refine hA _ ?_ ?_ ?_ <;> simp [h4, RS.app_nil]
  | x :: rest, pre, L, acc, st, h1, hL, h2, h3, h4, hl, hr, hc, Q, hA => by
    refine loopω_run fns ?_
    have hd : (pre.length : Int) < pre.length + (rest.length + 1) := by omega
    have hw : IntKind.i64.wrap ((pre.length : Int) + 1) = pre.length + 1 := wrap_i64 (by omega) (by simp at hl; omega)
    have hx := RS.fv_at' (e := 50) (b := L) (k := pre.length) (pre := rowsC 5 pre) (r := rowsC 5 rest) (x := bAV 5 (some x)) (by rw [hL, rowsC_append]; rfl) (by simp)
    obtain ⟨hxl, hxn⟩ := hr x List.mem_cons_self
    have ho := c_own (some x) hxl
    simp only [bl] at ho
    have e1 : (BS.mk x).opt = some x := oB_some hxn
    have ha : ∀ hp : H, apV hp 22 1 24 false (acc.av 22 1) (.slice (.own true) 22 1 [bAV 5 (some x)]) = some ((acc.app [bAV 5 (some x)]).av 22 1) := fun hp =>
      RS.apV (by simp only [List.length_singleton, Nat.div_one, tooLong]; simp at hl; omega) (by simp only [List.length_singleton, tooLong]; simp at hl; omega)
    simp [h1, h2, h3, h4, hd, hx, ha, hw, ho, e1]
    refine l_impRawElements rest (pre ++ [x]) L (acc.app [bAV 5 (some x)]) _ ?_ ?_ ?_ ?_ ?_ ?_ (fun e he => hr e (List.mem_cons_of_mem _ he)) ?_ Q (fun st' k1 k0 k2 => hA st' ?_ ?_ ?_)
    · simp [h1]
    · rw [hL]; simp
    · simp [h2]
    · simp
    · simp
    · simpa using hl
    · rw [RS.l_app]; simp; omega
    · rw [k1]
    · rw [k0]; simp
    · rw [k2, RS.app_app]; rfl

theorem RS.own_app (f : Bool) (xs ys : List AV) : (RS.own f xs).app ys = RS.own f (xs ++ ys) := by cases ys <;> rfl
theorem c_RawElems (l : List UInt8) (hne : l ≠ []) (hl : l.length < 2147483648) : ∀ hE : H, callω fns 20 [bAV 5 (some l)] hE =
    some (if okL l = true ∧ (dR l).2 = true then .tup [(RS.own true (rowsC 5 (dR l).1)).av 50 1, .nilI] else .tup [.slice .nil 0 1 [], if okL l then xFew (dE eDat l).1 (dE eDat l).2 else xFew (some l) (rest4 (some l))], hE) := by
  intro hE
  have h := c_Elements l hl
  have hlen : (dR l).1.length ≤ l.length := by
    have := (elemsR_len (l.length + 1) (num32 l - 4) (l.drop 4)).2
    rw [List.length_drop] at this
    unfold dR; omega
  have g0 : ¬ (l.length : Int) = 0 := by
    intro e
    have : l.length = 0 := by omega
    exact hne (List.length_eq_zero_iff.1 this)
  generalize dR l = R at *
  generalize dE eDat l = E at *
  obtain ⟨es, ok⟩ := R
  simp only at *
  refine run20 (Nat.le_of_ble_eq_true rfl) ?_
  cases hk : okL l with
  | false =>
    rw [hk] at h
    simp only [Bool.false_eq_true, if_false, xFew] at h
    simp [bl, hne, h, ex2_0, ex2_1, xFew]
  | true =>
    rw [hk] at h
    simp only [if_true] at h
    cases ok with
    | false =>
      simp only [Bool.false_eq_true, if_false, xFew] at h
      simp [bl, hne, h, ex2_0, ex2_1, xFew]
    | true =>
      simp only [if_true] at h
      have hL : (RS.mk (rowsC 5 es)).l = rowsC 5 es := RS.l_mk _
      have hn : aLen false ((RS.mk (rowsC 5 es)).lv 56 1) = some (.int .i64 es.length) := RS.lv_len (by omega) (by rw [hL]; simp)
      have hn2 : aLen false ((RS.mk (rowsC 5 es)).fv 56 1) = some (.int .i64 es.length) := RS.fv_len (by omega) (by rw [hL]; simp)
      generalize RS.mk (rowsC 5 es) = L at *
      have hmk : ∀ st : St, mkV false 50 1 24 [.slice .nil 0 1 []] (.int .i64 0) (.int .i64 es.length) st = some ((RS.own true []).av 50 1, st) := fun st => by
        simp only [mkV, mkN]
        rw [if_pos ⟨trivial, trivial, by omega, by omega, by simp only [tooLong]; omega, by simp only [tooLong]; omega⟩]
        simp [RS.av, repCells]
      simp [bl, hne, h, ex2_0, ex2_1, hn, hn2, hmk]
      refine l_RawElements es [] L (RS.own true []) _ ?_ ?_ ?_ ?_ ?_ ?_ ?_ _ (fun st' k1 k2 => ?_)
      · simp
      · simpa using hL
      · simp
      · simp
      · simp
      · simp; omega
      · simp [RS.l]
      · rw [RS.own_app, List.nil_append] at k2
        simp [k1, k2]
theorem c_impElems (l : List UInt8) (hne : l ≠ []) (hl : l.length < 2147483648) : ∀ hE : H, callω fns 5 [bAV 5 (some l)] hE =
    some (if okL l = true ∧ (dR l).2 = true then .tup [(RS.mk (rowsC 5 (dR l).1)).av 22 1, .bool true] else .tup [.slice .nil 0 1 [], .bool false], hE) := by
  intro hE
  have h := c_RawElems l hne hl
  have hlen : (dR l).1.length ≤ l.length := by
    have := (elemsR_len (l.length + 1) (num32 l - 4) (l.drop 4)).2
    rw [List.length_drop] at this
    unfold dR; omega
  have hmem : ∀ e ∈ (dR l).1, e.length < 2147483648 ∧ e ≠ [] := by
    intro e he
    have h1 := mem_flat_len he
    have h2 := (elemsR_len (l.length + 1) (num32 l - 4) (l.drop 4)).1
    rw [List.length_drop] at h2
    exact ⟨by unfold dR at h1; omega, elemsR_ne _ _ _ e he⟩
  generalize dR l = R at *
  generalize dE eDat l = E at *
  obtain ⟨es, ok⟩ := R
  simp only at *
  refine run5 (Nat.le_of_ble_eq_true rfl) ?_
  by_cases hc : okL l = true ∧ ok = true
  · rw [if_pos hc] at h ⊢
    have hL : (RS.own true (rowsC 5 es)).l = rowsC 5 es := rfl
    have hn : aLen false ((RS.own true (rowsC 5 es)).lv 50 1) = some (.int .i64 es.length) := RS.lv_len (by omega) (by rw [hL]; simp)
    have hn2 : aLen false ((RS.own true (rowsC 5 es)).fv 50 1) = some (.int .i64 es.length) := RS.fv_len (by omega) (by rw [hL]; simp)
    generalize RS.own true (rowsC 5 es) = L at *
    simp [h, ex2_0, ex2_1, hn, hn2]
    refine l_impRawElements es [] L RS.nil _ ?_ ?_ ?_ ?_ ?_ ?_ hmem ?_ _ (fun st' k1 k0 k2 => ?_)
    · simp
    · simpa using hL
    · simp
    · simp
    · simp [RS.av]
    · simp; omega
    · simp [RS.l]
    · rw [RS.nil_app] at k2
      simp at k0
      simp [k1, k2, k0]
  · rw [if_neg hc] at h ⊢
    have he : ∃ a b, (if okL l = true then xFew E.1 E.2 else xFew (some l) (rest4 (some l))) = xFew a b := by split; { exact ⟨_, _, rfl⟩ }; { exact ⟨_, _, rfl⟩ }
    obtain ⟨a, b, he⟩ := he
    rw [he] at h
    simp only [xFew] at h
    simp [h, ex2_0, ex2_1]
    refine l_impRawElements [] [] RS.nil RS.nil _ ?_ ?_ ?_ ?_ ?_ ?_ (fun e he => by cases he) ?_ _ (fun st' k1 k0 k2 => ?_)
    · simp [RS.fv]
    · simp [RS.l]
    · simp
    · simp
    · simp [RS.av]
    · simp
    · simp [RS.l]
    · simp [RS.app_nil, RS.av] at k2
      simp at k0
      simp [k1, k2, k0]
end Go.Proofs.YtdnfnobgeddbfaaGreatDoor.Abs
