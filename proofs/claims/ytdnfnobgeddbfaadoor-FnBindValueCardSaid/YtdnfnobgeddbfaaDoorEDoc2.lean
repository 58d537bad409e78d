/- How many values there are, how many bytes: what the laws' own functions compute. -/
import Derived.Test.YtdnfnobgeddbfaaDoorEDoc1
namespace Go.Proofs.YtdnfnobgeddbfaaDoor.Abs
set_option linter.all false
open Go.Proofs
set_option linter.unusedVariables false
set_option linter.unusedSimpArgs false
set_option maxRecDepth 100000
set_option maxHeartbeats 4000000

theorem take8 {eB eE : Nat} (v : Tr) (l : List AV) : (v.cells eB eE ++ l).take 8 = v.cells eB eE := by
  rw [← Tr.cells_length eB eE v, List.take_left]
theorem len8 {eB eE : Nat} (v : Tr) (l : List AV) : 8 ≤ (v.cells eB eE ++ l).length := by
  rw [List.length_append, Tr.cells_length]; omega

mutual
theorem c_docCount : ∀ (v : Tr) (most : Int), v.wf → 0 ≤ most → most ≤ 4611686018427387904 → ∀ hE : H, callω fns 27 [.agg (v.cells 5 53), .int .i64 most] hE = some (.int .i64 (v.count most), hE)
  | .mk k t m n0 bi hi b kn ks, most, hW, h1, h2 => by
    simp only [Tr.wf] at hW
    intro hE
    refine run27 (Nat.le_of_ble_eq_true rfl) ?_
    simp [Tr.cells]
    refine l_docCount ks .nil _ k t m n0 bi hi b kn 1 most ?_ ?_ ?_ ?_ ?_ (by omega) (by omega) h2 (by simpa [Ks.app] using hW.2.2.2.2.2.2.2.2.2.2.2.1) hW.2.2.2.2.2.2.2.2.2.2.2.2 _ (fun st' e h => ?_)
    · simp
    · simp
    · simp
    · simp [Ks.len]
    · simp [Tr.cells, Ks.app]
    · simp [h, e, Tr.count]
theorem l_docCount : ∀ (r pre : Ks) (st : St) (k : Int) (t m : List UInt8) (n0 bi hi : Int) (b : Option (List UInt8)) (kn : Bool) (n most : Int), st.s 1 = .int .i64 most → st.s 2 = .ptr (.loc 2) 0 → st.s 5 = .int .i64 n → st.s 6 = .int .i64 pre.len →
    st.b 2 = some (.cells (Tr.cells 5 53 (.mk k t m n0 bi hi b kn (pre.app r)))) → 1 ≤ n → n ≤ most + 1 → most ≤ 4611686018427387904 → (pre.app r).len ≤ reachBytes → r.wf →
    ∀ Q : Ex × St → Prop, (∀ st' : St, st'.h = st.h → st'.s 5 = .int .i64 (r.count n most) → Q (.exit 0, st')) → LoopR fns lc27_0 st Q
  | .nil, pre, st, k, t, m, n0, bi, hi, b, kn, n, most, h1, h2, h5, h6, hb, hn, hm, hM, hL, hW, Q, hQ => by
    refine loopω_run fns ?_
    simp only [Ks.app_nil, Tr.cells] at hb
    simp [h1, h2, h5, h6, hb]
    exact hQ _ rfl (by simp [h5, Ks.count])
  | .cons nm v r, pre, st, k, t, m, n0, bi, hi, b, kn, n, most, h1, h2, h5, h6, hb, hn, hm, hM, hL, hW, Q, hQ => by
    refine loopω_run fns ?_
    have hlt : (pre.len : Int) < ((pre.app (.cons nm v r)).len : Int) := by rw [Ks.len_app]; simp [Ks.len]; omega
    have hb' := hb
    simp only [Tr.cells] at hb'
    by_cases hc : n ≤ most
    · have hw : IntKind.i64.wrap (most - n) = most - n := wrap_i64 (by omega) (by omega)
      have hw2 : IntKind.i64.wrap ((pre.len : Int) + 1) = pre.len + 1 := by
        rw [Ks.len_app, Ks.len] at hL; simp only [reachBytes] at hL; exact wrap_i64 (by omega) (by omega)
      have hcnt := c_docCount v (most - n) hW.2.1 (by omega) (by omega)
      have hle := Tr.count_le v (most - n) (by omega)
      have hw3 : IntKind.i64.wrap (n + v.count (most - n)) = n + v.count (most - n) := wrap_i64 (by omega) (by omega)
      simp [h1, h2, h5, h6, hb', hlt, hc, Ks.av_ix, take8, len8, hw, hw2, hw3, hcnt]
      refine l_docCount r (pre.app (.cons nm v .nil)) _ k t m n0 bi hi b kn (n + v.count (most - n)) most ?_ ?_ ?_ ?_ ?_ (by omega) (by omega) hM (by simpa [Ks.app_assoc, Ks.app] using hL) hW.2.2 Q (fun st' e h => hQ st' e ?_)
      · simp [h1]
      · simp [h2]
      · simp
      · simp [Ks.len_app, Ks.len]
      · simp [Tr.cells, Ks.app_assoc, Ks.app]
      · rw [h, Ks.count, if_pos hc]
    · simp [h1, h2, h5, h6, hb', hlt, hc]
      exact hQ _ rfl (by simp [h5, Ks.count, hc])
end

theorem wrap_add_l (a b : Int) : IntKind.i64.wrap (IntKind.i64.wrap a + b) = IntKind.i64.wrap (a + b) := by
  simp only [IntKind.wrap, IntKind.signed, IntKind.bits]; simp; repeat' split
  all_goals omega
theorem wrap_add_r (a b : Int) : IntKind.i64.wrap (a + IntKind.i64.wrap b) = IntKind.i64.wrap (a + b) := by
  rw [Int.add_comm, wrap_add_l, Int.add_comm]

mutual
theorem c_docBytes : ∀ (v : Tr), v.wf → ∀ hE : H, callω fns 29 [.agg (v.cells 5 53)] hE = some (.int .i64 (IntKind.i64.wrap v.nb), hE)
  | .mk k t m n0 bi hi b kn ks, hW => by
    simp only [Tr.wf] at hW
    intro hE
    refine run29 (Nat.le_of_ble_eq_true rfl) ?_
    simp [Tr.cells, wrap_add_l, wrap_add_r]
    refine l_docBytes ks .nil _ k t m n0 bi hi b kn (t.length + m.length + (bl b).length) ?_ ?_ ?_ ?_ (by simpa [Ks.app] using hW.2.2.2.2.2.2.2.2.2.2.2.1) hW.2.2.2.2.2.2.2.2.2.2.2.2 _ (fun st' e h => ?_)
    · simp
    · simp
    · simp [Ks.len]
    · simp [Tr.cells, Ks.app]
    · simp [h, e, Tr.nb]
theorem l_docBytes : ∀ (r pre : Ks) (st : St) (k : Int) (t m : List UInt8) (n0 bi hi : Int) (b : Option (List UInt8)) (kn : Bool) (n : Nat), st.s 1 = .ptr (.loc 1) 0 → st.s 3 = .int .i64 (IntKind.i64.wrap n) → st.s 4 = .int .i64 pre.len →
    st.b 1 = some (.cells (Tr.cells 5 53 (.mk k t m n0 bi hi b kn (pre.app r)))) → (pre.app r).len ≤ reachBytes → r.wf →
    ∀ Q : Ex × St → Prop, (∀ st' : St, st'.h = st.h → st'.s 3 = .int .i64 (IntKind.i64.wrap (n + r.nb : Nat)) → Q (.exit 0, st')) → LoopR fns lc29_0 st Q
  | .nil, pre, st, k, t, m, n0, bi, hi, b, kn, n, h1, h5, h6, hb, hL, hW, Q, hQ => by
    refine loopω_run fns ?_
    simp only [Ks.app_nil, Tr.cells] at hb
    simp [h1, h5, h6, hb]
    exact hQ _ rfl (by simp [h5, Ks.nb])
  | .cons nm v r, pre, st, k, t, m, n0, bi, hi, b, kn, n, h1, h5, h6, hb, hL, hW, Q, hQ => by
    refine loopω_run fns ?_
    have hlt : (pre.len : Int) < ((pre.app (.cons nm v r)).len : Int) := by rw [Ks.len_app]; simp [Ks.len]; omega
    have hb' := hb
    simp only [Tr.cells] at hb'
    have hw2 : IntKind.i64.wrap ((pre.len : Int) + 1) = pre.len + 1 := by
      rw [Ks.len_app, Ks.len] at hL; simp only [reachBytes] at hL; exact wrap_i64 (by omega) (by omega)
    have hcnt := c_docBytes v hW.2.1
    simp [h1, h5, h6, hb', hlt, Ks.av_ix, take8, len8, hw2, hcnt, wrap_add_l, wrap_add_r]
    refine l_docBytes r (pre.app (.cons nm v .nil)) _ k t m n0 bi hi b kn (n + nm.length + v.nb) ?_ ?_ ?_ ?_ (by simpa [Ks.app_assoc, Ks.app] using hL) hW.2.2 Q (fun st' e h => hQ st' e ?_)
    · simp [h1]
    · simp
    · simp [Ks.len_app, Ks.len]
    · simp [Tr.cells, Ks.app_assoc, Ks.app]
    · rw [h]; simp only [Ks.nb]; congr 2; omega
end
end Go.Proofs.YtdnfnobgeddbfaaDoor.Abs
