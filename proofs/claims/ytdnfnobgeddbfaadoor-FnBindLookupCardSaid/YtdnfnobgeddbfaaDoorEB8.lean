/- EB12, EB8 -/
import Derived.Test.YtdnfnobgeddbfaaDoorEB9
import Derived.Test.YtdnfnobgeddbfaaDoorEDoc5
import Derived.Test.YtdnfnobgeddbfaaDoorEB7
/- Names that lead into a value: the specification's walk; texts in a row that are not too long. -/
namespace Go.Proofs.YtdnfnobgeddbfaaDoor.Abs
set_option linter.all false
open Go.Proofs
set_option linter.unusedVariables false
set_option linter.unusedSimpArgs false
set_option maxRecDepth 100000
set_option maxHeartbeats 8000000

theorem Ks.find_wf {a : List UInt8} {v : Tr} : ∀ {ks : Ks}, ks.find a = some v → ks.wf → v.wf
  | .nil, h, _ => by simp [Ks.find] at h
  | .cons nm w r, h, hw => by
    simp only [Ks.find] at h
    split at h
    · cases h; exact hw.2.1
    · exact Ks.find_wf h hw.2.2
theorem Ks.find_ok {a : List UInt8} {v : Tr} : ∀ {ks : Ks}, ks.find a = some v → ks.good → (∃ d, v.right d = true) ∧ v.sz ≤ ks.sz
  | .nil, h, _ => by simp [Ks.find] at h
  | .cons nm w r, h, hw => by
    rw [Ks.sz_cons]
    simp only [Ks.find] at h
    split at h
    · cases h; exact ⟨hw.2.1, by omega⟩
    · have := Ks.find_ok h hw.2.2; exact ⟨this.1, by omega⟩
theorem Tr.kids_wf {v : Tr} (h : v.wf) : v.kids.wf ∧ v.kids.len ≤ reachBytes := by
  cases v with
  | mk k t m n bi hi b kn ks => exact ⟨h.2.2.2.2.2.2.2.2.2.2.2.2, h.2.2.2.2.2.2.2.2.2.2.2.1⟩
theorem lookT_ok : ∀ (p : List (List UInt8)) (ks : Ks) (w : Tr), lookT p ks = some w → ks.good → ks.wf → w.wf ∧ w.sz ≤ ks.sz ∧ ∃ d, w.right d = true
  | [], ks, w, h, _, _ => by simp [lookT] at h
  | a :: r, ks, w, h, hg, hw => by
    simp only [lookT] at h
    cases hf : ks.find a with
    | none => rw [hf] at h; cases h
    | some v =>
      rw [hf] at h
      simp only at h
      obtain ⟨⟨d, hd⟩, hs⟩ := Ks.find_ok hf hg
      have hvw := Ks.find_wf hf hw
      split at h
      · cases h; exact ⟨hvw, hs, d, hd⟩
      · split at h
        · rename_i hk
          obtain ⟨q1, q2, q3⟩ := lookT_ok r v.kids w h (Tr.kids_good hk hd) (Tr.kids_wf hvw).1
          have := Tr.kids_sz v
          exact ⟨q1, by omega, q3⟩
        · cases h
def lookG : List (List UInt8) → Tr → Option Tr
  | [], v => some v
  | a :: r, v => if v.kind = 3 ∨ v.kind = 4 then (match v.kids.find a with | none => none | some w => lookG r w) else none
theorem lookG_eq : ∀ (p : List (List UInt8)) (v : Tr), p ≠ [] → (v.kind = 3 ∨ v.kind = 4) → lookG p v = lookT p v.kids
  | [], v, h, _ => absurd rfl h
  | a :: r, v, _, hk => by
    simp only [lookG, lookT, if_pos hk]
    cases v.kids.find a with
    | none => rfl
    | some w =>
      simp only
      by_cases hr : r = []
      · subst hr; simp [lookG]
      · rw [if_neg hr]
        by_cases hw : w.kind = 3 ∨ w.kind = 4
        · rw [if_pos hw]; exact lookG_eq r w hr hw
        · rw [if_neg hw]
          cases r with
          | nil => exact absurd rfl hr
          | cons x xs => simp only [lookG, if_neg hw]

def Ks.idx (a : List UInt8) : Ks → Option Nat
  | .nil => none
  | .cons nm v r => if nm = a then some 0 else (Ks.idx a r).map (· + 1)
theorem Ks.idx_find (a : List UInt8) : ∀ K : Ks, (K.idx a = none ∧ K.find a = none) ∨ ∃ (i : Nat) (pre r : Ks) (v : Tr), K.idx a = some i ∧ K.find a = some v ∧ K = pre.app (.cons a v r) ∧ i = pre.len
  | .nil => .inl ⟨rfl, rfl⟩
  | .cons nm v r => by
    by_cases h : nm = a
    · subst h; exact .inr ⟨0, .nil, r, v, by simp [Ks.idx], by simp [Ks.find], rfl, rfl⟩
    · rcases Ks.idx_find a r with ⟨h1, h2⟩ | ⟨i, pre, r', v', h1, h2, h3, h4⟩
      · exact .inl ⟨by simp [Ks.idx, h, h1], by simp [Ks.find, h, h2]⟩
      · exact .inr ⟨i + 1, .cons nm v pre, r', v', by simp [Ks.idx, h, h1], by simp [Ks.find, h, h2], by rw [h3]; rfl, by rw [h4]; simp [Ks.len]⟩
theorem l_DocFind {K : Ks} {kn : Bool} {a : List UInt8} (hL : K.len ≤ reachBytes) : ∀ (r pre : Ks) (st : St), K = pre.app r → st.s 0 = Ks.av 5 53 K kn → st.s 1 = .str a → st.s 5 = .int .i64 pre.len → ∀ Q : Ex × St → Prop,
    (r.idx a = none → ∀ st' : St, st'.h = st.h → Q (.exit 0, st')) →
    (∀ i : Nat, r.idx a = some i → ∀ st' : St, st'.h = st.h → st'.s 4 = .int .i64 (pre.len + i : Nat) → Q (.ret, st')) → LoopR fns lc38_0 st Q
  | .nil, pre, st, hK, h0, h1, h5, Q, hA, hB => by
    refine loopω_run fns ?_
    have hlen : K.len = pre.len := by rw [hK, Ks.len_app]; simp [Ks.len]
    simp [h0, h5, hlen]
    refine hA rfl _ ?_; simp
  | .cons nm v r, pre, st, hK, h0, h1, h5, Q, hA, hB => by
    refine loopω_run fns ?_
    have hlen : K.len = pre.len + (r.len + 1) := by rw [hK, Ks.len_app]; simp [Ks.len]
    have hlt : (pre.len : Int) < pre.len + (r.len + 1) := by omega
    have hix := Ks.av_ix 5 53 pre r nm v kn
    rw [← hK] at hix
    have hw2 : IntKind.i64.wrap ((pre.len : Int) + 1) = pre.len + 1 := by simp only [reachBytes] at hL; exact wrap_i64 (by omega) (by omega)
    by_cases hn : nm = a
    · subst hn
      simp [h0, h1, h5, hlen, hlt, hix]
      refine hB 0 (by simp [Ks.idx]) _ ?_ ?_ <;> simp
    · have hf : (Ks.cons nm v r).idx a = (r.idx a).map (· + 1) := by simp [Ks.idx, hn]
      rw [hf] at hA hB
      have hn' : (nm == a) = false := by simpa using hn
      simp [h0, h1, h5, hlen, hlt, hix, hn', hw2]
      refine l_DocFind (kn := kn) hL r (pre.app (.cons nm v .nil)) _ (by rw [hK, Ks.app_assoc]; rfl) ?_ ?_ ?_ Q (fun k st' q => hA (by rw [k]; rfl) st' ?_) (fun i k st' q q2 => hB (i + 1) (by rw [k]; rfl) st' ?_ ?_)
      · simp [h0]
      · simp [h1]
      · simp [Ks.len_app, Ks.len]
      · rw [q]
      · rw [q]
      · rw [q2, Ks.len_app]; simp [Ks.len]; omega
theorem c_DocFind (K : Ks) (kn : Bool) (a : List UInt8) (hL : K.len ≤ reachBytes) :
    (K.find a = none ∧ ∀ hE : H, callω fns 38 [Ks.av 5 53 K kn, .str a] hE = some (.int .i64 (-1), hE)) ∨
    ∃ (pre r : Ks) (v : Tr), K.find a = some v ∧ K = pre.app (.cons a v r) ∧ ∀ hE : H, callω fns 38 [Ks.av 5 53 K kn, .str a] hE = some (.int .i64 pre.len, hE) := by
  rcases Ks.idx_find a K with ⟨h1, h2⟩ | ⟨i, pre, r', v', h1, h2, h3, h4⟩
  · refine .inl ⟨h2, fun hE => run38 (Nat.le_of_ble_eq_true rfl) ?_⟩
    simp
    refine l_DocFind (K := K) (kn := kn) (a := a) hL K .nil _ rfl ?_ ?_ ?_ _ (fun k st' q => ?_) (fun i k st' q q2 => ?_)
    · simp
    · simp
    · simp [Ks.len]
    · simp [q]
    · rw [h1] at k; cases k
  · refine .inr ⟨pre, r', v', h2, h3, fun hE => run38 (Nat.le_of_ble_eq_true rfl) ?_⟩
    simp
    refine l_DocFind (K := K) (kn := kn) (a := a) hL K .nil _ rfl ?_ ?_ ?_ _ (fun k st' q => ?_) (fun i k st' q q2 => ?_)
    · simp
    · simp
    · simp [Ks.len]
    · rw [h1] at k; cases k
    · rw [h1] at k; cases k
      simp only [Ks.len, Nat.zero_add, h4] at q2
      simp [q, q2]

def zeroC : List AV := [.int .i64 0, .str [], .str [], .int .i64 0, .int .u64 0, .int .u64 0, .slice .nil 0 1 [], .slice .nil 0 1 []]
theorem l_DocLook {b : RS} {ps : List (List UInt8)} (hb : b.l = ps.map AV.str) (hps : ps.length ≤ 1000000) : ∀ (rest pre : List (List UInt8)) (v : Tr) (st : St), ps = pre ++ rest → v.wf → st.s 1 = b.fv 9 1 → st.s 4 = .ptr (.loc 4) 0 → st.b 4 = some (.cells zeroC) →
    st.s 6 = .ptr (.loc 6) 0 → st.b 6 = some (.cells (v.cells 5 53)) → st.s 7 = .int .i64 pre.length → ∀ Q : Ex × St → Prop,
    (∀ w, lookG rest v = some w → ∀ st' : St, st'.h = st.h → st'.s 4 = .ptr (.loc 4) 0 → st'.b 4 = some (.cells zeroC) → st'.s 6 = .ptr (.loc 6) 0 → st'.b 6 = some (.cells (w.cells 5 53)) → Q (.exit 0, st')) →
    (lookG rest v = none → ∀ st' : St, st'.h = st.h → st'.s 4 = .ptr (.loc 4) 0 → st'.b 4 = some (.cells zeroC) → st'.s 5 = .bool false → Q (.ret, st')) → LoopR fns lc15_0 st Q
  | [], pre, v, st, hp, hW, h1, h4, hb4, h6, hb6, h7, Q, hA, hB => by
    refine loopω_run fns ?_
    have hn : aLen false (b.fv 9 1) = some (.int .i64 pre.length) := by rw [RS.fv_len1, hb, hp]; simp
    simp [h1, h7, hn]
    refine hA v rfl _ ?_ ?_ ?_ ?_ ?_ <;> simp [h4, hb4, h6, hb6, zeroC]
  | a :: rest, pre, v, st, hp, hW, h1, h4, hb4, h6, hb6, h7, Q, hA, hB => by
    refine loopω_run fns ?_
    have hlen : ps.length = pre.length + (rest.length + 1) := by rw [hp]; simp
    have hlt : (pre.length : Int) < pre.length + (rest.length + 1) := by omega
    have hn : aLen false (b.fv 9 1) = some (.int .i64 ((pre.length : Int) + (rest.length + 1))) := by rw [RS.fv_len1, hb, List.length_map, hlen]; simp
    have hx := RS.fv_at' (e := 9) (b := b) (k := pre.length) (pre := pre.map AV.str) (r := rest.map AV.str) (x := .str a) (by rw [hb, hp]; simp) (by simp)
    have hw2 : IntKind.i64.wrap ((pre.length : Int) + 1) = pre.length + 1 := wrap_i64 (by omega) (by omega)
    obtain ⟨hkw, hkl⟩ := Tr.kids_wf hW
    cases v with
    | mk k t m n bi hi bb kn ks =>
    simp only [Tr.kids] at hkw hkl
    have hF := c_DocFind ks kn a hkl
    simp only [Tr.cells] at hb6
    by_cases hk : k = 3 ∨ k = 4
    case neg =>
      have k3 : ¬ k = 3 := by omega
      have k4 : ¬ k = 4 := by omega
      have hG : lookG (a :: rest) (.mk k t m n bi hi bb kn ks) = none := by simp [lookG, Tr.kind, k3, k4]
      simp [h1, h4, hb4, h6, hb6, h7, hn, hlt, k3, k4, zeroC]
      refine hB hG _ ?_ ?_ ?_ ?_ <;> simp [h4, hb4, zeroC]
    have hG : lookG (a :: rest) (.mk k t m n bi hi bb kn ks) = (match ks.find a with | none => none | some w => lookG rest w) := by
      rcases hk with rfl | rfl <;> simp [lookG, Tr.kind, Tr.kids]
    rw [hG] at hA hB
    rcases hF with ⟨hf, hc⟩ | ⟨pr, r, w, hf, he, hc⟩
    · rw [hf] at hB
      rcases hk with rfl | rfl
      · simp [h1, h4, hb4, h6, hb6, h7, hn, hlt, hx, hc, zeroC]
        refine hB rfl _ ?_ ?_ ?_ ?_ <;> simp [h4, hb4, zeroC]
      · simp [h1, h4, hb4, h6, hb6, h7, hn, hlt, hx, hc, zeroC]
        refine hB rfl _ ?_ ?_ ?_ ?_ <;> simp [h4, hb4, zeroC]
    · rw [hf] at hA hB
      simp only at hA hB
      have hww : w.wf := Ks.find_wf hf hkw
      have hix := Ks.av_ix 5 53 pr r a w kn
      rw [← he] at hix
      have hc9 : (AV.str a :: Tr.cells 5 53 w).length = 9 := by simp
      have hpl : ¬ ((pr.len : Int) < 0) := by omega
      rcases hk with rfl | rfl
      · simp [h1, h4, hb4, h6, hb6, h7, hn, hlt, hx, hc, hix, take8, len8, hpl, hw2, zeroC]
        refine l_DocLook (b := b) (ps := ps) hb hps rest (pre ++ [a]) w _ ?_ hww ?_ ?_ ?_ ?_ ?_ ?_ Q (fun w' e st' q1 q2 q3 q4 q5 => hA w' e st' ?_ q2 q3 q4 q5) (fun e st' q1 q2 q3 q4 => hB e st' ?_ q2 q3 q4)
        · rw [hp]; simp
        · simp [h1]
        · simp [h4]
        · simp [hb4, zeroC]
        · simp [h6]
        · simp [hc9]
        · simp
        · rw [q1]
        · rw [q1]
      · simp [h1, h4, hb4, h6, hb6, h7, hn, hlt, hx, hc, hix, take8, len8, hpl, hw2, zeroC]
        refine l_DocLook (b := b) (ps := ps) hb hps rest (pre ++ [a]) w _ ?_ hww ?_ ?_ ?_ ?_ ?_ ?_ Q (fun w' e st' q1 q2 q3 q4 q5 => hA w' e st' ?_ q2 q3 q4 q5) (fun e st' q1 q2 q3 q4 => hB e st' ?_ q2 q3 q4)
        · rw [hp]; simp
        · simp [h1]
        · simp [h4]
        · simp [hb4, zeroC]
        · simp [h6]
        · simp [hc9]
        · simp
        · rw [q1]
        · rw [q1]

theorem c_DocLook (K : Ks) (kn : Bool) (b : RS) (ps : List (List UInt8)) (hb : b.l = ps.map AV.str) (hps : ps.length ≤ 1000000) (hp : ps ≠ []) (hw : K.wf) (hL : K.len ≤ reachBytes) :
    ∀ hE : H, callω fns 15 [Ks.av 5 53 K kn, b.fv 9 1] hE = some (match lookT ps K with | some w => .tup [.agg (w.cells 5 53), .bool true] | none => .tup [.agg zeroC, .bool false], hE) := by
  intro hE
  have hG := lookG_eq ps (.mk 3 [] [] 0 0 0 none kn K) hp (.inl rfl)
  simp only [Tr.kids] at hG
  refine run15 (Nat.le_of_ble_eq_true rfl) ?_
  simp
  refine l_DocLook hb hps ps [] (.mk 3 [] [] 0 0 0 none kn K) _ rfl ?_ ?_ ?_ ?_ ?_ ?_ ?_ _ (fun w e st' q1 q2 q3 q4 q5 => ?_) (fun e st' q1 q2 q3 q4 => ?_)
  · have e1 : IntKind.i64.min = -9223372036854775808 := rfl
    have e2 : IntKind.i64.max = 9223372036854775807 := rfl
    have e3 : IntKind.u64.min = 0 := rfl
    have e4 : IntKind.u64.max = 18446744073709551615 := rfl
    simp only [Tr.wf, e1, e2, e3, e4, List.length_nil, bl]
    exact ⟨by omega, by omega, by omega, by omega, by omega, by omega, by omega, by omega, by omega, by omega, by omega, hL, hw⟩
  · simp
  · simp
  · simp [zeroC]
  · simp
  · simp [Tr.cells, bAV]
  · simp
  · rw [hG] at e
    rw [e]
    cases w with
    | mk k t m n bi hi bb kn' ks =>
      simp only [Tr.cells] at q5 ⊢
      simp [q1, q2, q3, q4, q5, zeroC]
  · rw [hG] at e
    rw [e]
    simp [q1, q2, q3, q4, zeroC]
theorem l_zzFits2 {b : RS} {ps : List (List UInt8)} (hb : b.l = ps.map AV.str) (hps : ps.length ≤ 2147483647) : ∀ (rest pre : List (List UInt8)) (st : St), ps = pre ++ rest → st.s 8 = b.fv 9 1 → st.s 9 = .int .i64 ps.length → st.s 10 = .int .i64 pre.length → ∀ Q : Ex × St → Prop,
    ((∀ x ∈ rest, x.length ≤ 2147483647) → ∀ st' : St, st'.h = st.h → Q (.exit 0, st')) → ((¬ ∀ x ∈ rest, x.length ≤ 2147483647) → ∀ st' : St, st'.h = st.h → st'.s 2 = .bool false → Q (.ret, st')) → LoopR fns lc11_0 st Q
  | [], pre, st, hp, h8, h9, h10, Q, hA, hB => by
    refine loopω_run fns ?_
    have hlen : ps.length = pre.length := by rw [hp]; simp
    simp [h9, h10, hlen]
    refine hA (by simp) _ ?_; simp
  | a :: rest, pre, st, hp, h8, h9, h10, Q, hA, hB => by
    refine loopω_run fns ?_
    have hlen : ps.length = pre.length + (rest.length + 1) := by rw [hp]; simp
    have hlt : (pre.length : Int) < pre.length + (rest.length + 1) := by omega
    have hx := RS.fv_at' (e := 9) (b := b) (k := pre.length) (pre := pre.map AV.str) (r := rest.map AV.str) (x := .str a) (by rw [hb, hp]; simp) (by simp)
    have hw2 : IntKind.i64.wrap ((pre.length : Int) + 1) = pre.length + 1 := wrap_i64 (by omega) (by omega)
    by_cases h : 2147483647 < a.length
    · have h' : (2147483647 : Int) < a.length := by omega
      simp [h8, h9, h10, hlen, hlt, hx, h']
      refine hB (fun k => by have := k a List.mem_cons_self; omega) _ ?_ ?_ <;> simp
    · have h' : ¬ (2147483647 : Int) < a.length := by omega
      simp [h8, h9, h10, hlen, hlt, hx, h', hw2]
      refine l_zzFits2 hb hps rest (pre ++ [a]) _ ?_ ?_ ?_ ?_ Q (fun k st' q => hA (fun x hx => ?_) st' ?_) (fun k st' q q2 => hB (fun k2 => k fun x hx => k2 x (List.mem_cons_of_mem _ hx)) st' ?_ q2)
      · rw [hp]; simp
      · simp [h8]
      · simp [h9, hlen]
      · simp
      · rcases List.mem_cons.1 hx with rfl | hx
        · omega
        · exact k x hx
      · rw [q]
      · rw [q]
theorem c_zzFits2 (b : RS) (ps : List (List UInt8)) (hb : b.l = ps.map AV.str) : ∃ z : Bool, (z = true → ∀ x ∈ ps, x.length ≤ 2147483647) ∧ ∀ hE : H, callω fns 11 [b.fv 9 1] hE = some (.bool z, hE) := by
  have hn : aLen false (b.fv 9 1) = some (.int .i64 ps.length) := by rw [RS.fv_len1, hb, List.length_map]
  by_cases h : 2147483647 < ps.length
  · have h' : (2147483647 : Int) < ps.length := by omega
    refine ⟨false, (fun e => by cases e), fun hE => run11 (Nat.le_of_ble_eq_true rfl) ?_⟩
    simp [hn, h']
  · have h' : ¬ (2147483647 : Int) < ps.length := by omega
    by_cases hx : ∀ x ∈ ps, x.length ≤ 2147483647
    · refine ⟨true, fun _ => hx, fun hE => run11 (Nat.le_of_ble_eq_true rfl) ?_⟩
      simp [hn, h']
      refine l_zzFits2 hb (by omega) ps [] _ rfl ?_ ?_ ?_ _ (fun k st' q => ?_) (fun k st' q q2 => absurd hx k)
      · simp
      · simp
      · simp
      · simp [q]
    · refine ⟨false, (fun e => by cases e), fun hE => run11 (Nat.le_of_ble_eq_true rfl) ?_⟩
      simp [hn, h']
      refine l_zzFits2 hb (by omega) ps [] _ rfl ?_ ?_ ?_ _ (fun k st' q => absurd k hx) (fun k st' q q2 => ?_)
      · simp
      · simp
      · simp
      · simp [q, q2]
end Go.Proofs.YtdnfnobgeddbfaaDoor.Abs

/- The element with a number, of a document of any bytes. -/
namespace Go.Proofs.YtdnfnobgeddbfaaDoor.Abs
set_option linter.all false
open Go.Proofs
set_option linter.unusedVariables false
set_option linter.unusedSimpArgs false
set_option maxRecDepth 100000
set_option maxHeartbeats 8000000

theorem l_indexErr {o : Option (List UInt8)} {k : Nat} (hk64 : k < 18446744073709551616) : ∀ (f : Nat) (n : Int) (l : List UInt8) (c j : Nat) (st : St), st.s 0 = bAV 5 o → st.s 1 = .int .u64 k → st.s 6 = .int .i32 n → st.s 7 = bAV 5 (some l) → st.s 9 = .int .u64 c → c + j = k →
    l.length < f → l.length < 2147483648 → -2147483648 ≤ n → n < 2147483648 → ∀ Q : Ex × St → Prop,
    ((elemAt f n l j).1 = 2 → ∀ st' : St, st'.h = st.h → Q (.exit 0, st')) →
    ((elemAt f n l j).1 = 1 → ∀ st' : St, st'.h = st.h → st'.s 4 = bAV 5 none → st'.s 5 = xFew o (some (elemAt f n l j).2) → Q (.ret, st')) →
    ((elemAt f n l j).1 = 0 → ∀ st' : St, st'.h = st.h → st'.s 4 = bAV 5 (some (elemAt f n l j).2) → st'.s 5 = .nilI → Q (.ret, st')) → LoopR fns lc80_0 st Q
  | 0, n, l, c, j, st, h0, h1, h4, h5, h9, hc, hf, hl, hn0, hn1, Q, hA, hB, hC => by omega
  | f + 1, n, l, c, j, st, h0, h1, h4, h5, h9, hc, hf, hl, hn0, hn1, Q, hA, hB, hC => by
    refine loopω_run fns ?_
    have e0 : AV.slice .nil 0 1 [] = bAV 5 none := rfl
    by_cases hn : n ≤ 1
    · have g : ¬ (1 < n) := by omega
      simp only [elemAt, hn, if_true] at hA
      simp [h4, g]
      refine hA (by simp) _ ?_ <;> simp
    · have g : 1 < n := by omega
      have hr := c_ReadElement l hl
      cases he : eGet l with
      | none =>
        have e : eRes l = .tup [bAV 5 none, bAV 5 (some l), .bool false] := by simp [eRes, he]
        rw [e] at hr
        have hi := c_NewIBE o (some l)
        simp only [elemAt, hn, if_false, he] at hB
        have w0 : IntKind.i32.wrap 0 = 0 := rfl
        have w1 : IntKind.i32.wrap n = n := i32_small hn0 hn1
        simp [xFew, h0, h1, h4, h5, h9, g, hr, hi, mk_few, ex3_0, ex3_1, ex3_2, bl, w0, w1]
        refine hB (by simp) _ ?_ ?_ ?_ <;> simp [xFew, e0]
      | some m =>
        have hm := eGet_le he
        have e : eRes l = .tup [bAV 5 (some (l.take m)), bAV 5 (some (l.drop m)), .bool true] := by simp [eRes, he]
        rw [e] at hr
        have hX : (l.take m).length = m := by simp; omega
        have hY : (l.drop m).length = l.length - m := by simp
        have w0 : IntKind.i32.wrap (m : Int) = m := i32_small (by omega) (by omega)
        have w1 : IntKind.i32.wrap (n - m) = n - m := i32_small (by omega) (by omega)
        simp only [elemAt, hn, if_false, he] at hA hB hC
        generalize l.take m = X at *
        cases j with
        | zero =>
          have hck : (c : Int) = k := by omega
          simp only at hC
          simp [h0, h1, h4, h5, h9, g, hr, ex3_0, ex3_1, ex3_2, bl, hX, w0, w1, hck]
          refine hC (by simp) _ ?_ ?_ ?_ <;> simp
        | succ j =>
          have hck : ¬ (c : Int) = k := by omega
          have hck2 : ¬ c = k := by omega
          have w2 : IntKind.u64.wrap ((c : Int) + 1) = (c + 1 : Nat) := by simp [IntKind.wrap, IntKind.signed, IntKind.bits]; omega
          simp only at hA hB hC
          simp [h0, h1, h4, h5, h9, g, hr, ex3_0, ex3_1, ex3_2, bl, hX, w0, w1, hck, hck2, w2]
          refine l_indexErr hk64 (o := o) f (n - m) (l.drop m) (c + 1) j _ ?_ ?_ ?_ ?_ ?_ (by omega) (by omega) (by omega) (by omega) (by omega) Q (fun hb st' k1 => hA hb st' ?_) (fun hb st' k1 k2 k3 => hB hb st' ?_ k2 k3) (fun hb st' k1 k2 k3 => hC hb st' ?_ k2 k3)
          · simp [h0]
          · simp [h1]
          · simp
          · simp
          · simp
          · rw [k1]
          · rw [k1]
          · rw [k1]
/-- The element with a number: what the lower layer says. -/
def atR (l : List UInt8) (k : Nat) : Nat × List UInt8 := if okL l then elemAt (l.length + 1) (num32 l - 4) (l.drop 4) k else (3, [])
def atV (s : Nat → Nat × Nat) (l : List UInt8) (k : Nat) : AV :=
  if (atR l k).1 = 0 then .nilI else if (atR l k).1 = 1 then xFew (some l) (some (atR l k).2) else if (atR l k).1 = 2 then sE (s 0) else xFew (some l) (rest4 (some l))
def atE (l : List UInt8) (k : Nat) : Option (List UInt8) := if (atR l k).1 = 0 then some (atR l k).2 else none
theorem elemAt_lt : ∀ (f : Nat) (n : Int) (l : List UInt8) (k : Nat), (elemAt f n l k).1 < 3
  | 0, n, l, k => by simp [elemAt]
  | f + 1, n, l, k => by
    simp only [elemAt]
    split
    · simp
    · split
      · simp
      · split
        · simp
        · exact elemAt_lt f _ _ _
theorem c_indexErr (l : List UInt8) (hl : l.length < 2147483648) (k : Nat) (hk64 : k < 18446744073709551616) {s : Nat → Nat × Nat} {hE : H} (hS : Sens hE.Γ s) : callω fns 80 [bAV 5 (some l), .int .u64 k] hE =
    some (.tup [bAV 5 (atE l k), atV s l k], hE) := by
  have e0 : AV.slice .nil 0 1 [] = bAV 5 none := rfl
  have hR := c_RLen (some l)
  simp only [bl] at hR
  unfold atE atV atR
  by_cases hk : okL l = true
  case neg =>
    simp only [Bool.not_eq_true] at hk
    have hi := c_NewIBE (some l) (rest4 (some l))
    rw [hk] at hR
    generalize rest4 (some l) = R at *
    refine run80 (Nat.le_of_ble_eq_true rfl) ?_
    simp [hR, hk, hi, xFew, mkI, ex3_0, ex3_1, ex3_2, e0]
  case pos =>
    obtain ⟨h4, h0⟩ := okL_le hk
    rw [hk, rest4_some h4] at hR
    have hr := num32_range l
    have w : IntKind.i32.wrap (num32 l - 4) = num32 l - 4 := i32_small (by omega) (by omega)
    have hd : (l.drop 4).length = l.length - 4 := by simp
    simp only [hk, if_true]
    have hlt := elemAt_lt (l.length + 1) (num32 l - 4) (l.drop 4) k
    generalize hN : num32 l = N at *
    generalize hL : l.drop 4 = L at *
    refine run80 (Nat.le_of_ble_eq_true rfl) ?_
    simp [hR, w, ex3_0, ex3_1, ex3_2]
    refine l_indexErr (o := some l) hk64 (l.length + 1) (N - 4) L 0 k _ ?_ ?_ ?_ ?_ ?_ (by omega) (by omega) (by omega) (by omega) (by omega) _ (fun hb st' k1 => ?_) (fun hb st' k1 k2 k3 => ?_) (fun hb st' k1 k2 k3 => ?_)
    · simp
    · simp
    · simp
    · simp
    · simp
    · have hg := hS.g0
      simp [k1, hb, hg, glV, sE, e0]
    · simp only [xFew] at k3
      simp [k1, k2, k3, hb, xFew]
    · simp [k1, k2, k3, hb]
theorem atV_cases (s : Nat → Nat × Nat) (l : List UInt8) (k : Nat) : (atV s l k = .nilI ∧ (atR l k).1 = 0) ∨ (∃ a b, atV s l k = xFew a b ∧ ((atR l k).1 = 1 ∨ (atR l k).1 = 3)) ∨ (atV s l k = sE (s 0) ∧ (atR l k).1 = 2) := by
  have hlt : (atR l k).1 = 0 ∨ (atR l k).1 = 1 ∨ (atR l k).1 = 2 ∨ (atR l k).1 = 3 := by
    unfold atR
    split
    · have := elemAt_lt (l.length + 1) (num32 l - 4) (l.drop 4) k; omega
    · simp
  unfold atV
  rcases hlt with h | h | h | h <;> rw [h]
  · exact .inl ⟨rfl, rfl⟩
  · exact .inr (.inl ⟨_, _, rfl, .inl rfl⟩)
  · exact .inr (.inr ⟨rfl, rfl⟩)
  · exact .inr (.inl ⟨_, _, rfl, .inr rfl⟩)
def atC (l : List UInt8) (k : Nat) : Int := if (atR l k).1 = 0 then 0 else if (atR l k).1 = 2 then 7 else 1
theorem c_impIndex (l : List UInt8) (hl : l.length < 2147483648) (i : Int) {s : Nat → Nat × Nat} {hE : H} (hS : Sens hE.Γ s) (he : (bl (atE l (IntKind.u64.wrap i).toNat)).length < 2147483648) :
    callω fns 21 [bAV 5 (some l), .int .i64 i] hE = some (.tup [(BS.mk (bl (atE l (IntKind.u64.wrap i).toNat))).av 5, .int .i64 (atC l (IntKind.u64.wrap i).toNat)], hE) := by
  have hw0 : 0 ≤ IntKind.u64.wrap i := by simp [IntKind.wrap, IntKind.signed, IntKind.bits]; omega
  have hw1 : IntKind.u64.wrap i < 18446744073709551616 := by simp [IntKind.wrap, IntKind.signed, IntKind.bits]; omega
  have hk : ((IntKind.u64.wrap i).toNat : Int) = IntKind.u64.wrap i := by omega
  have hk64 : (IntKind.u64.wrap i).toNat < 18446744073709551616 := by omega
  generalize hK : (IntKind.u64.wrap i).toNat = K at *
  have h1 : ∀ hE : H, Sens hE.Γ s → callω fns 80 [bAV 5 (some l), .int .u64 K] hE = some (.tup [bAV 5 (atE l K), atV s l K], hE) := fun hE hS => c_indexErr l hl K hk64 hS
  have ho := c_own (atE l K) he
  have hw : IntKind.u64.wrap i = (K : Int) := hk.symm
  have hcs := atV_cases s l K
  have hcode : ∀ hE : H, Sens hE.Γ s → callω fns 31 [atV s l K] hE = some (.int .i64 (atC l K), hE) := by
    intro hE hS
    unfold atC
    rcases hcs with ⟨h, h'⟩ | ⟨a, b, h, h'⟩ | ⟨h, h'⟩
    · rw [h, h']; exact c_code_nil hE
    · rw [h]
      have e1 : ¬ (atR l K).1 = 0 := by omega
      have e2 : ¬ (atR l K).1 = 2 := by omega
      rw [if_neg e1, if_neg e2]; exact c_code_few a b hE
    · rw [h, h']; exact c_code_sen (i := 0) (by omega) hS
  generalize atE l K = E at *
  generalize hV : atV s l K = V at *
  generalize atC l K = C at *
  have hvk : (∀ t, V.kill t = V) ∧ gvV V = V ∧ hdV V = V ∧ lfV V = V ∧ V.cls .left = V ∧ (∀ m, cpV m V = V) ∧ (∀ m, cpS m V = V) ∧ V.plain = true ∧ V.cells = [V] ∧ V.several = false ∧ ∀ st n, takeU V st n = (V, st.set n V) := by
    rcases hcs with ⟨h, _⟩ | ⟨a, b, h, _⟩ | ⟨h, _⟩ <;> rw [h] <;>
      exact ⟨fun _ => rfl, rfl, rfl, rfl, rfl, fun m => by cases m <;> rfl, fun m => by cases m <;> rfl, rfl, rfl, rfl, fun _ _ => rfl⟩
  obtain ⟨q1, q2, q3, q4, q5, q6, q7, q8, q9, q10, q11⟩ := hvk
  have h2 : ∀ hE : H, Sens hE.Γ s → callω fns 60 [bAV 5 (some l), .int .u64 K] hE = some (.tup [bAV 5 E, V], hE) := by
    intro hE hS
    have h1' := h1 hE.mask hS
    refine run60 (Nat.le_of_ble_eq_true rfl) ?_
    simp [h1', ex2_0, ex2_1, q1, q2, q3, q4, q5, q6, q7, q8, q9, q10, q11]
  have h3 : ∀ hE : H, Sens hE.Γ s → callω fns 44 [bAV 5 (some l), .int .u64 K] hE = some (.tup [bAV 5 E, V], hE) := by
    intro hE hS
    have h2' := h2 hE.mask hS
    refine run44 (Nat.le_of_ble_eq_true rfl) ?_
    simp [h2', ex2_0, ex2_1, q1, q2, q3, q4, q5, q6, q7, q8, q9, q10, q11]
  have h3' := h3 hE.mask hS
  have h4 := hcode hE.mask hS
  refine run21 (Nat.le_of_ble_eq_true rfl) ?_
  simp [hw, h3', h4, ho, ex2_0, ex2_1, q1, q2, q3, q4, q5, q6, q7, q8, q9, q10, q11]
end Go.Proofs.YtdnfnobgeddbfaaDoor.Abs
