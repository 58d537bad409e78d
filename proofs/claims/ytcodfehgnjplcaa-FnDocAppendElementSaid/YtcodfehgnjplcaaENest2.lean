/- Elements appended with what is inside of them begun and ended in place. -/
import Derived.Test.YtcodfehgnjplcaaENest
namespace Go.Proofs.Ytcodfehgnjplcaa.Abs
set_option linter.all false
open Go.Proofs
set_option linter.unusedVariables false
set_option linter.unusedSimpArgs false
set_option maxRecDepth 100000
set_option maxHeartbeats 8000000

theorem c_DocElemStart (b : BS) (nm : List UInt8) (hp : plainL nm = true) (hl : b.l.length + nm.length ≤ 1000000000) : ∀ hE : H, callω fns 28 [b.av 5, .str nm] hE = some (.tup [.int .i32 (b.app (hdL 3 nm)).l.length, ((b.app (hdL 3 nm)).app [0, 0, 0, 0]).av 5], hE) := by
  intro hE
  have h1 := c_AppendHeader b 3 nm hp (by omega) (by omega) (by omega)
  have h2 := c_DocStart (b.app (hdL 3 nm)) (by rw [BS.l_app, List.length_append, hdL_length]; omega)
  generalize (b.app (hdL 3 nm)) = B at *
  refine run28 (Nat.le_of_ble_eq_true rfl) ?_
  simp [h1, h2, ex2_0, ex2_1]
theorem c_ArrElemStart (b : BS) (nm : List UInt8) (hp : plainL nm = true) (hl : b.l.length + nm.length ≤ 1000000000) : ∀ hE : H, callω fns 29 [b.av 5, .str nm] hE = some (.tup [.int .i32 (b.app (hdL 4 nm)).l.length, ((b.app (hdL 4 nm)).app [0, 0, 0, 0]).av 5], hE) := by
  intro hE
  have h1 := c_AppendHeader b 4 nm hp (by omega) (by omega) (by omega)
  have h2 := c_ArrStart (b.app (hdL 4 nm)) (by rw [BS.l_app, List.length_append, hdL_length]; omega)
  generalize (b.app (hdL 4 nm)) = B at *
  refine run29 (Nat.le_of_ble_eq_true rfl) ?_
  simp [h1, h2, ex2_0, ex2_1]

def APN (r : Ks) : Prop := ∀ (arr : Bool) (i d : Nat), r.right arr i d = true → ∀ (k : Int) (t m : List UInt8) (n bi hi : Int) (bb : Option (List UInt8)) (kn0 : Bool) (ks0 : Ks) (pre : Ks) (kn : Bool) (st : St) (L : List UInt8) (a0 : Int), st.s 8 = .int .i32 a0 → st.s 5 = .ptr (.loc 5) 0 → st.b 5 = some (.cells (Tr.cells 5 31 (.mk k t m n bi hi bb kn0 ks0))) →
    st.s 41 = Ks.av 5 31 (pre.app r) kn → st.s 42 = .int .i64 (pre.app r).len → st.s 43 = .int .i64 pre.len → st.s 0 = (BS.own true L).av 5 →
    (pre.app r).len ≤ reachBytes → r.wf → L.length + r.sz ≤ 899999000 →
    ∀ Q : Ex × St → Prop, (∀ st' : St, st'.h = st.h → st'.s 8 = .int .i32 a0 → st'.s 5 = .ptr (.loc 5) 0 → st'.b 5 = some (.cells (Tr.cells 5 31 (.mk k t m n bi hi bb kn0 ks0))) → st'.s 0 = (BS.own true (L ++ r.body)).av 5 → Q (.exit 0, st')) → LoopR fns lc18_0 st Q

mutual
theorem c_nested : ∀ (v : Tr) (d : Nat), v.wf → v.right d = true → ∀ (nm : List UInt8), plainL nm = true → ∀ b : BS, b.fr → b.l.length + nm.length + v.sz ≤ 899999000 → ∀ hE : H,
    callω fns 18 [b.av 5, .str nm, .agg (v.cells 5 31)] hE = some (.tup [(b.app (elemL nm v)).av 5, .bool true], hE)
  | .mk k t m n bi hi bb kn ks, d, hW, hR, nm, hp, b, hb, hs => by
    have hW' := hW
    simp only [Tr.wf] at hW'
    have hl := hW'.2.2.2.2.2.2.2.2.2.2.2.1
    have hw := hW'.2.2.2.2.2.2.2.2.2.2.2.2
    have hs' : b.l.length + nm.length + ks.sz + 18 ≤ 899999000 := by simp only [Tr.sz, Tr.nb, Tr.nodes] at hs; simp only [Ks.sz]; omega
    have hbl := Ks.body_le ks
    have hks : ks.sz = ks.nb + 18 * ks.nodes := rfl
    have hE' := c_element (.mk k t m n bi hi bb kn ks) d hW hR nm hp b hs
    intro hE
    refine run18 (Nat.le_of_ble_eq_true rfl) ?_
    by_cases k3 : k = 3
    · subst k3
      have h1 := c_DocElemStart b nm hp (by omega)
      rw [BS.app_app, BS.fr_app hb (m := hdL 3 nm ++ [0, 0, 0, 0]) (by simp), BS.l_app] at h1
      have h2 := c_DocEnd (b.l ++ hdL 3 nm ++ [0, 0, 0, 0] ++ ks.body) (b.l ++ hdL 3 nm).length (by simp only [List.length_append, List.length_cons, List.length_nil]; omega) (by simp only [List.length_append, List.length_cons, List.length_nil, hdL_length]; omega)
      rw [doc_set] at h2
      have hd : BS.own true (b.l ++ hdL 3 nm ++ (le32 ((ks.body.length : Int) + 5) ++ (ks.body ++ [0]))) = b.app (elemL nm (.mk 3 t m n bi hi bb kn ks)) := by
        rw [BS.fr_app hb (by simp [elemL, hdL])]; simp [elemL, Tr.val, Tr.kind]
      rw [hd] at h2
      have hLL : (b.l ++ (hdL 3 nm ++ [0, 0, 0, 0])).length + ks.sz ≤ 899999000 := by simp only [List.length_append, List.length_cons, List.length_nil, hdL_length]; omega
      have hAA : b.l ++ hdL 3 nm ++ [0, 0, 0, 0] ++ ks.body = b.l ++ (hdL 3 nm ++ [0, 0, 0, 0]) ++ ks.body := by simp
      rw [hAA] at h2
      generalize (b.app (elemL nm (.mk 3 t m n bi hi bb kn ks))) = RR at *
      generalize (b.l ++ hdL 3 nm).length = A0 at *
      generalize (b.l ++ (hdL 3 nm ++ [0, 0, 0, 0])) = LL at *
      simp [Tr.cells, h1, ex2_0, ex2_1]
      refine l_nested ks _ _ _ (right_kids hR (.inl rfl)) 3 t m n bi hi bb kn ks .nil kn _ LL A0 ?_ ?_ ?_ ?_ ?_ ?_ ?_ (by simpa [Ks.app] using hl) hw hLL _ fun st' e e8 e5 eb e0 => ?_
      · simp
      · simp
      · simp [Tr.cells]
      · simp [Ks.app]
      · simp [Ks.app]
      · simp [Ks.len]
      · simp
      simp only [Tr.cells] at eb
      generalize LL ++ ks.body = AA at *
      simp [e, e8, e5, eb, e0, h2, ex2_0, ex2_1]
    by_cases k4 : k = 4
    · subst k4
      have h1 := c_ArrElemStart b nm hp (by omega)
      rw [BS.app_app, BS.fr_app hb (m := hdL 4 nm ++ [0, 0, 0, 0]) (by simp), BS.l_app] at h1
      have h2 := c_ArrEnd (b.l ++ hdL 4 nm ++ [0, 0, 0, 0] ++ ks.body) (b.l ++ hdL 4 nm).length (by simp only [List.length_append, List.length_cons, List.length_nil]; omega) (by simp only [List.length_append, List.length_cons, List.length_nil, hdL_length]; omega)
      rw [doc_set] at h2
      have hd : BS.own true (b.l ++ hdL 4 nm ++ (le32 ((ks.body.length : Int) + 5) ++ (ks.body ++ [0]))) = b.app (elemL nm (.mk 4 t m n bi hi bb kn ks)) := by
        rw [BS.fr_app hb (by simp [elemL, hdL])]; simp [elemL, Tr.val, Tr.kind]
      rw [hd] at h2
      have hLL : (b.l ++ (hdL 4 nm ++ [0, 0, 0, 0])).length + ks.sz ≤ 899999000 := by simp only [List.length_append, List.length_cons, List.length_nil, hdL_length]; omega
      have hAA : b.l ++ hdL 4 nm ++ [0, 0, 0, 0] ++ ks.body = b.l ++ (hdL 4 nm ++ [0, 0, 0, 0]) ++ ks.body := by simp
      rw [hAA] at h2
      generalize (b.app (elemL nm (.mk 4 t m n bi hi bb kn ks))) = RR at *
      generalize (b.l ++ hdL 4 nm).length = A0 at *
      generalize (b.l ++ (hdL 4 nm ++ [0, 0, 0, 0])) = LL at *
      simp [Tr.cells, h1, ex2_0, ex2_1]
      refine l_nested ks _ _ _ (right_kids hR (.inr (.inl rfl))) 4 t m n bi hi bb kn ks .nil kn _ LL A0 ?_ ?_ ?_ ?_ ?_ ?_ ?_ (by simpa [Ks.app] using hl) hw hLL _ fun st' e e8 e5 eb e0 => ?_
      · simp
      · simp
      · simp [Tr.cells]
      · simp [Ks.app]
      · simp [Ks.app]
      · simp [Ks.len]
      · simp
      simp only [Tr.cells] at eb
      generalize LL ++ ks.body = AA at *
      simp [e, e8, e5, eb, e0, h2, ex2_0, ex2_1]
    · simp only [Tr.cells] at hE' ⊢
      simp [k3, k4, hE']
theorem l_nested : ∀ (r : Ks), APN r
  | .nil, arr, i, d, hR, k, t, m, n, bi, hi, bb, kn0, ks0, pre, kn, st, L, a0, h8, h5, hb, h0, h1, h2, h3, hL, hW, hs, Q, hQ => by
    refine loopω_run fns ?_
    rw [Ks.app_nil] at h0 h1
    simp [h0, h1, h2, h3]
    refine hQ _ rfl (by simp [h8]) (by simp [h5]) (by simp [hb]) ?_
    simp [h3, Ks.body]
  | .cons nm v r, arr, i, d, hR, k, t, m, n, bi, hi, bb, kn0, ks0, pre, kn, st, L, a0, h8, h5, hb, h0, h1, h2, h3, hL, hW, hs, Q, hQ => by
    simp only [Ks.right, Bool.and_eq_true] at hR
    obtain ⟨hp, _, hv, hr⟩ := hR
    refine loopω_run fns ?_
    have hlt : (pre.len : Int) < ((pre.app (.cons nm v r)).len : Int) := by rw [Ks.len_app]; simp [Ks.len]; omega
    have hL' := hL
    rw [Ks.len_app, Ks.len] at hL'; simp only [reachBytes] at hL'
    have hw2 : IntKind.i64.wrap ((pre.len : Int) + 1) = pre.len + 1 := wrap_i64 (by omega) (by omega)
    have hs' : L.length + (nm.length + v.nb + r.nb + 18 * (v.nodes + r.nodes)) ≤ 899999000 := by simpa [Ks.sz, Ks.nb, Ks.nodes] using hs
    have hE := c_nested v d hW.2.1 hv nm hp (BS.own true L) (.inr ⟨L, rfl⟩) (by simp only [BS.l]; unfold Tr.sz; omega)
    have hvl := Tr.val_le v
    have hel : (elemL nm v).length = nm.length + 2 + v.val.length := by simp [elemL, hdL_length]
    have ha : (BS.own true L).app (elemL nm v) = BS.own true (L ++ elemL nm v) := rfl
    rw [ha] at hE
    simp only [Tr.cells] at hb
    simp [h0, h1, h2, h3, hlt, Ks.av_ix, take8, hE, hw2, ex2_0, ex2_1]
    refine l_nested r arr (i + 1) d hr k t m n bi hi bb kn0 ks0 (pre.app (.cons nm v .nil)) kn _ (L ++ elemL nm v) a0 ?_ ?_ ?_ ?_ ?_ ?_ ?_ (by simpa [Ks.app_assoc, Ks.app] using hL) hW.2.2 (by simp [hel, Ks.sz]; omega) Q (fun st' e e8 e5 eb h => hQ st' e e8 e5 eb ?_)
    · simp [h8]
    · simp [h5]
    · simp [hb, Tr.cells]
    · simp [h0, Ks.app_assoc, Ks.app]
    · simp [h1, Ks.app_assoc, Ks.app]
    · simp [Ks.len_app, Ks.len]
    · simp
    · rw [h]; simp [Ks.body, elemL, hdL]
end
end Go.Proofs.Ytcodfehgnjplcaa.Abs
