/- EDoc2, EDoc3, EDoc4 -/
import Derived.Test.YtdnfnobgeddbfaaDoorEDoc1
/- How many values there are, how many bytes: what the laws' own functions compute. -/
namespace Go.Proofs.YtdnfnobgeddbfaaDoor.Abs
set_option linter.all false
open Go.Proofs
set_option linter.unusedVariables false
set_option linter.unusedSimpArgs false
set_option maxRecDepth 100000
set_option maxHeartbeats 4000000

theorem take8 {eB eE : Nat} (v : Tr) (l : List AV) : (v.cells eB eE ++ l).take 8 = v.cells eB eE := by
  rw [← Tr.cells_length eB eE v, List.take_left]
theorem len8 {eB eE : Nat} (v : Tr) (l : List AV) : 8 ≤ (v.cells eB eE ++ l).length := by
  rw [List.length_append, Tr.cells_length]; omega

mutual
theorem c_docCount : ∀ (v : Tr) (most : Int), v.wf → 0 ≤ most → most ≤ 4611686018427387904 → ∀ hE : H, callω fns 27 [.agg (v.cells 5 53), .int .i64 most] hE = some (.int .i64 (v.count most), hE)
  | .mk k t m n0 bi hi b kn ks, most, hW, h1, h2 => by
    simp only [Tr.wf] at hW
    intro hE
    refine run27 (Nat.le_of_ble_eq_true rfl) ?_
    simp [Tr.cells]
    refine l_docCount ks .nil _ k t m n0 bi hi b kn 1 most ?_ ?_ ?_ ?_ ?_ (by omega) (by omega) h2 (by simpa [Ks.app] using hW.2.2.2.2.2.2.2.2.2.2.2.1) hW.2.2.2.2.2.2.2.2.2.2.2.2 _ (fun st' e h => ?_)
    · simp
    · simp
    · simp
    · simp [Ks.len]
    · simp [Tr.cells, Ks.app]
    · simp [h, e, Tr.count]
theorem l_docCount : ∀ (r pre : Ks) (st : St) (k : Int) (t m : List UInt8) (n0 bi hi : Int) (b : Option (List UInt8)) (kn : Bool) (n most : Int), st.s 1 = .int .i64 most → st.s 2 = .ptr (.loc 2) 0 → st.s 5 = .int .i64 n → st.s 6 = .int .i64 pre.len →
    st.b 2 = some (.cells (Tr.cells 5 53 (.mk k t m n0 bi hi b kn (pre.app r)))) → 1 ≤ n → n ≤ most + 1 → most ≤ 4611686018427387904 → (pre.app r).len ≤ reachBytes → r.wf →
    ∀ Q : Ex × St → Prop, (∀ st' : St, st'.h = st.h → st'.s 5 = .int .i64 (r.count n most) → Q (.exit 0, st')) → LoopR fns lc27_0 st Q
  | .nil, pre, st, k, t, m, n0, bi, hi, b, kn, n, most, h1, h2, h5, h6, hb, hn, hm, hM, hL, hW, Q, hQ => by
    refine loopω_run fns ?_
    simp only [Ks.app_nil, Tr.cells] at hb
    simp [h1, h2, h5, h6, hb]
    exact hQ _ rfl (by simp [h5, Ks.count])
  | .cons nm v r, pre, st, k, t, m, n0, bi, hi, b, kn, n, most, h1, h2, h5, h6, hb, hn, hm, hM, hL, hW, Q, hQ => by
    refine loopω_run fns ?_
    have hlt : (pre.len : Int) < ((pre.app (.cons nm v r)).len : Int) := by rw [Ks.len_app]; simp [Ks.len]; omega
    have hb' := hb
    simp only [Tr.cells] at hb'
    by_cases hc : n ≤ most
    · have hw : IntKind.i64.wrap (most - n) = most - n := wrap_i64 (by omega) (by omega)
      have hw2 : IntKind.i64.wrap ((pre.len : Int) + 1) = pre.len + 1 := by
        rw [Ks.len_app, Ks.len] at hL; simp only [reachBytes] at hL; exact wrap_i64 (by omega) (by omega)
      have hcnt := c_docCount v (most - n) hW.2.1 (by omega) (by omega)
      have hle := Tr.count_le v (most - n) (by omega)
      have hw3 : IntKind.i64.wrap (n + v.count (most - n)) = n + v.count (most - n) := wrap_i64 (by omega) (by omega)
      simp [h1, h2, h5, h6, hb', hlt, hc, Ks.av_ix, take8, len8, hw, hw2, hw3, hcnt]
      refine l_docCount r (pre.app (.cons nm v .nil)) _ k t m n0 bi hi b kn (n + v.count (most - n)) most ?_ ?_ ?_ ?_ ?_ (by omega) (by omega) hM (by simpa [Ks.app_assoc, Ks.app] using hL) hW.2.2 Q (fun st' e h => hQ st' e ?_)
      · simp [h1]
      · simp [h2]
      · simp
      · simp [Ks.len_app, Ks.len]
      · simp [Tr.cells, Ks.app_assoc, Ks.app]
      · rw [h, Ks.count, if_pos hc]
    · simp [h1, h2, h5, h6, hb', hlt, hc]
      exact hQ _ rfl (by simp [h5, Ks.count, hc])
end

theorem wrap_add_l (a b : Int) : IntKind.i64.wrap (IntKind.i64.wrap a + b) = IntKind.i64.wrap (a + b) := by
  simp only [IntKind.wrap, IntKind.signed, IntKind.bits]; simp; repeat' split
  all_goals omega
theorem wrap_add_r (a b : Int) : IntKind.i64.wrap (a + IntKind.i64.wrap b) = IntKind.i64.wrap (a + b) := by
  rw [Int.add_comm, wrap_add_l, Int.add_comm]

mutual
theorem c_docBytes : ∀ (v : Tr), v.wf → ∀ hE : H, callω fns 29 [.agg (v.cells 5 53)] hE = some (.int .i64 (IntKind.i64.wrap v.nb), hE)
  | .mk k t m n0 bi hi b kn ks, hW => by
    simp only [Tr.wf] at hW
    intro hE
    refine run29 (Nat.le_of_ble_eq_true rfl) ?_
    simp [Tr.cells, wrap_add_l, wrap_add_r]
    refine l_docBytes ks .nil _ k t m n0 bi hi b kn (t.length + m.length + (bl b).length) ?_ ?_ ?_ ?_ (by simpa [Ks.app] using hW.2.2.2.2.2.2.2.2.2.2.2.1) hW.2.2.2.2.2.2.2.2.2.2.2.2 _ (fun st' e h => ?_)
    · simp
    · simp
    · simp [Ks.len]
    · simp [Tr.cells, Ks.app]
    · simp [h, e, Tr.nb]
theorem l_docBytes : ∀ (r pre : Ks) (st : St) (k : Int) (t m : List UInt8) (n0 bi hi : Int) (b : Option (List UInt8)) (kn : Bool) (n : Nat), st.s 1 = .ptr (.loc 1) 0 → st.s 3 = .int .i64 (IntKind.i64.wrap n) → st.s 4 = .int .i64 pre.len →
    st.b 1 = some (.cells (Tr.cells 5 53 (.mk k t m n0 bi hi b kn (pre.app r)))) → (pre.app r).len ≤ reachBytes → r.wf →
    ∀ Q : Ex × St → Prop, (∀ st' : St, st'.h = st.h → st'.s 3 = .int .i64 (IntKind.i64.wrap (n + r.nb : Nat)) → Q (.exit 0, st')) → LoopR fns lc29_0 st Q
  | .nil, pre, st, k, t, m, n0, bi, hi, b, kn, n, h1, h5, h6, hb, hL, hW, Q, hQ => by
    refine loopω_run fns ?_
    simp only [Ks.app_nil, Tr.cells] at hb
    simp [h1, h5, h6, hb]
    exact hQ _ rfl (by simp [h5, Ks.nb])
  | .cons nm v r, pre, st, k, t, m, n0, bi, hi, b, kn, n, h1, h5, h6, hb, hL, hW, Q, hQ => by
    refine loopω_run fns ?_
    have hlt : (pre.len : Int) < ((pre.app (.cons nm v r)).len : Int) := by rw [Ks.len_app]; simp [Ks.len]; omega
    have hb' := hb
    simp only [Tr.cells] at hb'
    have hw2 : IntKind.i64.wrap ((pre.len : Int) + 1) = pre.len + 1 := by
      rw [Ks.len_app, Ks.len] at hL; simp only [reachBytes] at hL; exact wrap_i64 (by omega) (by omega)
    have hcnt := c_docBytes v hW.2.1
    simp [h1, h5, h6, hb', hlt, Ks.av_ix, take8, len8, hw2, hcnt, wrap_add_l, wrap_add_r]
    refine l_docBytes r (pre.app (.cons nm v .nil)) _ k t m n0 bi hi b kn (n + nm.length + v.nb) ?_ ?_ ?_ ?_ (by simpa [Ks.app_assoc, Ks.app] using hL) hW.2.2 Q (fun st' e h => hQ st' e ?_)
    · simp [h1]
    · simp
    · simp [Ks.len_app, Ks.len]
    · simp [Tr.cells, Ks.app_assoc, Ks.app]
    · rw [h]; simp only [Ks.nb]; congr 2; omega
end
end Go.Proofs.YtdnfnobgeddbfaaDoor.Abs

/- Right values: what the reference says of them. -/
namespace Go.Proofs.YtdnfnobgeddbfaaDoor.Abs
set_option linter.all false
open Go.Proofs
set_option linter.unusedVariables false
set_option linter.unusedSimpArgs false
set_option maxRecDepth 100000
set_option maxHeartbeats 8000000

theorem c_docBare (k : Int) (t m : List UInt8) (n bi hi : Int) (b : Option (List UInt8)) (kn : Bool) (ks : Ks) :
    ∀ hE : H, callω fns 65 [.agg (Tr.cells 5 53 (.mk k t m n bi hi b kn ks))] hE = some (.agg (Tr.cells 5 53 (.mk k (bareT k t) (bareM k m) (bareN k n) (bareL k bi) (bareH k hi) (bareB k b) (bareKn k kn) (bareK k ks))), hE) := by
  intro hE
  refine run65 (Nat.le_of_ble_eq_true rfl) ?_
  have e1 : bAV 5 none = AV.slice .nil 0 1 [] := rfl
  have e2 : Ks.av 5 53 .nil true = AV.slice .nil 0 1 [] := rfl
  simp [Tr.cells]
  by_cases c1 : k = 1
  · subst c1; simp [bareT, bareM, bareN, bareL, bareH, bareB, bareK, bareKn, e1, e2]
  simp [c1]
  by_cases c17 : k = 17
  · subst c17; simp [bareT, bareM, bareN, bareL, bareH, bareB, bareK, bareKn, e1, e2]
  simp [c17]
  by_cases c2 : k = 2
  · subst c2; simp [bareT, bareM, bareN, bareL, bareH, bareB, bareK, bareKn, e1, e2]
  simp [c2]
  by_cases c13 : k = 13
  · subst c13; simp [bareT, bareM, bareN, bareL, bareH, bareB, bareK, bareKn, e1, e2]
  simp [c13]
  by_cases c14 : k = 14
  · subst c14; simp [bareT, bareM, bareN, bareL, bareH, bareB, bareK, bareKn, e1, e2]
  simp [c14]
  by_cases c3 : k = 3
  · subst c3; simp [bareT, bareM, bareN, bareL, bareH, bareB, bareK, bareKn, e1, e2]
  simp [c3]
  by_cases c4 : k = 4
  · subst c4; simp [bareT, bareM, bareN, bareL, bareH, bareB, bareK, bareKn, e1, e2]
  simp [c4]
  by_cases c5 : k = 5
  · subst c5; simp [bareT, bareM, bareN, bareL, bareH, bareB, bareK, bareKn, e1, e2]
  simp [c5]
  by_cases c7 : k = 7
  · subst c7; simp [bareT, bareM, bareN, bareL, bareH, bareB, bareK, bareKn, e1, e2]
  simp [c7]
  by_cases c8 : k = 8
  · subst c8; simp [bareT, bareM, bareN, bareL, bareH, bareB, bareK, bareKn, e1, e2]
  simp [c8]
  by_cases c9 : k = 9
  · subst c9; simp [bareT, bareM, bareN, bareL, bareH, bareB, bareK, bareKn, e1, e2]
  simp [c9]
  by_cases c16 : k = 16
  · subst c16; simp [bareT, bareM, bareN, bareL, bareH, bareB, bareK, bareKn, e1, e2]
  simp [c16]
  by_cases c18 : k = 18
  · subst c18; simp [bareT, bareM, bareN, bareL, bareH, bareB, bareK, bareKn, e1, e2]
  simp [c18]
  by_cases c11 : k = 11
  · subst c11; simp [bareT, bareM, bareN, bareL, bareH, bareB, bareK, bareKn, e1, e2]
  simp [c11]
  by_cases c12 : k = 12
  · subst c12; simp [bareT, bareM, bareN, bareL, bareH, bareB, bareK, bareKn, e1, e2]
  simp [c12]
  by_cases c15 : k = 15
  · subst c15; simp [bareT, bareM, bareN, bareL, bareH, bareB, bareK, bareKn, e1, e2]
  simp [c15]
  by_cases c19 : k = 19
  · subst c19; simp [bareT, bareM, bareN, bareL, bareH, bareB, bareK, bareKn, e1, e2]
  simp [c19]
  simp [bareT, bareM, bareN, bareL, bareH, bareB, bareK, bareKn, c1, c17, c2, c13, c14, c3, c4, c5, c7, c8, c9, c16, c18, c11, c12, c15, c19]

theorem r_docRight4 {st : St} {k' : Int} {T M : List UInt8} {N L H : Int} {B : Option (List UInt8)} {K : Ks} {kn : Bool} {c : ACode} {s : List Fr} {Q : Ex × St → Prop}
    (h5 : st.s 5 = .ptr (.loc 5) 0) (hb : st.b 5 = some (.cells (Tr.cells 5 53 (.mk k' T M N L H B kn K))))
    (h : ∀ st' : St, st'.h = st.h → st'.s 52 = .bool (!(T.isEmpty && (M.isEmpty && (decide (N = 0) && (decide (L = 0) && (decide (H = 0) && (decide ((bl B).length = 0) && decide (K.len = 0)))))))) → st'.s 1 = st.s 1 → st'.s 2 = st.s 2 → st'.b 2 = st.b 2 → GoC fns Q s c st') :
    GoO fns Q s rg48_4 c st := by
  rw [org48_4]
  simp only [Tr.cells] at hb
  simp [h5, hb]
  cases hT : T.isEmpty
  · simp [hb, h5]; refine h _ rfl ?_ ?_ ?_ ?_ <;> simp [hT]
  simp [hb, h5]
  cases hM : M.isEmpty
  · simp [hb, h5]; refine h _ rfl ?_ ?_ ?_ ?_ <;> simp [hT, hM]
  simp [hb, h5]
  by_cases hN : N = 0
  case neg => simp [hb, h5, hN]; refine h _ rfl ?_ ?_ ?_ ?_ <;> simp [hT, hM, hN]
  simp [hb, h5, hN]
  by_cases hL : L = 0
  case neg => simp [hb, h5, hL]; refine h _ rfl ?_ ?_ ?_ ?_ <;> simp [hT, hM, hN, hL]
  simp [hb, h5, hL]
  by_cases hH : H = 0
  case neg => simp [hb, h5, hH]; refine h _ rfl ?_ ?_ ?_ ?_ <;> simp [hT, hM, hN, hL, hH]
  simp [hb, h5, hH]
  by_cases hB : bl B = []
  case neg => simp [hb, h5, hB]; refine h _ rfl ?_ ?_ ?_ ?_ <;> simp [hT, hM, hN, hL, hH, hB]
  simp [hb, h5, hB]
  by_cases hK : K.len = 0
  case neg => simp [hb, h5, hK]; refine h _ rfl ?_ ?_ ?_ ?_ <;> simp [hT, hM, hN, hL, hH, hB, hK]
  simp [hb, h5, hK]; refine h _ rfl ?_ ?_ ?_ ?_ <;> simp [hT, hM, hN, hL, hH, hB, hK]
end Go.Proofs.YtdnfnobgeddbfaaDoor.Abs

/- Right values, and values that are few and short enough. -/
namespace Go.Proofs.YtdnfnobgeddbfaaDoor.Abs
set_option linter.all false
open Go.Proofs
set_option linter.unusedVariables false
set_option linter.unusedSimpArgs false
set_option maxRecDepth 100000
set_option maxHeartbeats 8000000

mutual
theorem c_docRight : ∀ (v : Tr) (d : Nat), v.wf → d ≤ 1000 → ∀ hE : H, callω fns 48 [.agg (v.cells 5 53), .int .i64 d] hE = some (.bool (v.right d), hE)
  | .mk k t m n bi hi b kn ks, d, hW, hd => by
    intro hE
    refine run48 (Nat.le_of_ble_eq_true rfl) ?_
    simp only [Tr.wf] at hW
    have hbare := c_docBare k t m n bi hi b kn ks
    simp only [Tr.cells] at hbare
    have hp1 := c_DocPlain t (by have := hW.2.2.1; simp only [reachBytes] at this; simp only [maxLen]; omega)
    have hp2 := c_DocPlain m (by have := hW.2.2.2.1; simp only [reachBytes] at this; simp only [maxLen]; omega)
    simp [Tr.cells, c_DocKnown]
    cases hk : knownK k
    · simp [Tr.right, hk]
    simp
    by_cases hd0 : d = 0
    · simp [Tr.right, hd0]
    simp [hd0, hbare]
    refine r_docRight4 (k' := k) (T := bareT k t) (M := bareM k m) (N := bareN k n) (L := bareL k bi) (H := bareH k hi) (B := bareB k b) (K := bareK k ks) (kn := bareKn k kn) ?_ ?_ fun s1 a0 a1 a2 a3 a4 => ?_
    · simp
    · simp [Tr.cells]
    change s1.s 52 = .bool (!bareOk k t m n bi hi b ks) at a1
    simp at a0 a2 a3 a4
    simp [a1]
    cases hbo : bareOk k t m n bi hi b ks
    · simp [Tr.right, hbo, a0]
    simp [a3, a4, a0]
    have hR : (Tr.mk k t m n bi hi b kn ks).right d = (if k = 5 then decide (0 ≤ n) && decide (n ≤ 255)
     else if k = 7 ∨ k = 12 then decide ((bl b).length = 12)
     else if k = 8 then decide (n = 0) || decide (n = 1)
     else if k = 16 then decide (-2147483648 ≤ n) && decide (n < 2147483648)
     else if k = 11 then plainL t && plainL m
     else Ks.right ks (k == 4) 0 (d - 1)) := by simp [Tr.right, hk, hd0, hbo]
    have h12 : decide (((bl b).length : Int) = 12) = decide ((bl b).length = 12) := decide_eq_decide.2 (by omega)
    have fin : k ≠ 5 → k ≠ 7 → k ≠ 12 → k ≠ 8 → k ≠ 16 → k ≠ 11 → (Tr.mk k t m n bi hi b kn ks).right d = ks.right (k == 4) 0 (d - 1) := by
      intro g1 g2 g3 g4 g5 g6
      rw [hR]; simp [g1, g2, g3, g4, g5, g6]
    by_cases k5 : k = 5
    · by_cases n0 : 0 ≤ n <;> by_cases n1 : n ≤ 255 <;> rw [hR] <;> simp [k5, a3, a4, a0, n0, n1]
    simp [k5, a3, a4, a0]
    by_cases k7 : k = 7
    · rw [hR]; simp [k7, a3, a4, a0, h12]
    simp [k7, a3, a4, a0]
    by_cases k12 : k = 12
    · rw [hR]; simp [k12, a3, a4, a0, h12]
    simp [k12, a3, a4, a0]
    by_cases k8 : k = 8
    · by_cases n0 : n = 0 <;> by_cases n1 : n = 1 <;> rw [hR] <;> simp [k8, a3, a4, a0, n0, n1]
    simp [k8, a3, a4, a0]
    by_cases k16 : k = 16
    · by_cases n0 : -2147483648 ≤ n <;> by_cases n1 : n < 2147483648 <;> rw [hR] <;> simp [k16, a3, a4, a0, n0, n1]
    simp [k16, a3, a4, a0]
    by_cases k11 : k = 11
    · cases n0 : plainL t <;> rw [hR] <;> simp [k11, a3, a4, a0, hp1, hp2, n0]
    simp [k11, a3, a4, a0]
    refine l_docRight ks .nil _ k t m n bi hi b kn d ?_ ?_ ?_ ?_ (by omega) hd (by simpa [Ks.app] using hW.2.2.2.2.2.2.2.2.2.2.2.1) hW.2.2.2.2.2.2.2.2.2.2.2.2 _ (fun h st' e => ?_) (fun h st' e h4 => ?_)
    · simp [a2]
    · simp [a3]
    · simp [Ks.len]
    · simp [a4, Tr.cells, Ks.app]
    · rw [fin k5 k7 k12 k8 k16 k11]; simp [Ks.len] at h; simp [h, e, a0]
    · rw [fin k5 k7 k12 k8 k16 k11]; simp [Ks.len] at h; simp [h, h4, e, a0]
theorem l_docRight : ∀ (r pre : Ks) (st : St) (k : Int) (t m : List UInt8) (n0 bi hi : Int) (b : Option (List UInt8)) (kn : Bool) (d : Nat), st.s 1 = .int .i64 d → st.s 2 = .ptr (.loc 2) 0 → st.s 6 = .int .i64 pre.len →
    st.b 2 = some (.cells (Tr.cells 5 53 (.mk k t m n0 bi hi b kn (pre.app r)))) → 1 ≤ d → d ≤ 1000 → (pre.app r).len ≤ reachBytes → r.wf →
    ∀ Q : Ex × St → Prop, (r.right (k == 4) pre.len (d - 1) = true → ∀ st' : St, st'.h = st.h → Q (.exit 1, st')) → (r.right (k == 4) pre.len (d - 1) = false → ∀ st' : St, st'.h = st.h → st'.s 4 = .bool false → Q (.ret, st')) → LoopR fns lc48_0 st Q
  | .nil, pre, st, k, t, m, n0, bi, hi, b, kn, d, h1, h2, h6, hb, hd1, hd2, hL, hW, Q, hA, hB => by
    refine loopω_run fns ?_
    simp only [Ks.app_nil, Tr.cells] at hb
    simp [h1, h2, h6, hb]
    exact hA rfl _ rfl
  | .cons nm v r, pre, st, k, t, m, n0, bi, hi, b, kn, d, h1, h2, h6, hb, hd1, hd2, hL, hW, Q, hA, hB => by
    refine loopω_run fns ?_
    have hlt : (pre.len : Int) < ((pre.app (.cons nm v r)).len : Int) := by rw [Ks.len_app]; simp [Ks.len]; omega
    have hb' := hb
    simp only [Tr.cells] at hb'
    have hL' := hL
    rw [Ks.len_app, Ks.len] at hL'; simp only [reachBytes] at hL'
    have hw2 : IntKind.i64.wrap ((pre.len : Int) + 1) = pre.len + 1 := wrap_i64 (by omega) (by omega)
    have hwd : IntKind.i64.wrap ((d : Int) - 1) = ((d - 1 : Nat) : Int) := by rw [wrap_i64 (by omega) (by omega)]; omega
    have hr := c_docRight v (d - 1) hW.2.1 (by omega)
    have hp := c_DocPlain nm (by have := hW.1; simp only [reachBytes] at this; simp only [maxLen]; omega)
    have hdig := c_DocDigits pre.len pre.len (Nat.le_refl _) (by omega)
    have step : ∀ st' : St, st'.h = st.h → (plainL nm = true → (!((k == 4) && nm != digL pre.len)) = true → v.right (d - 1) = true → st'.s 1 = .int .i64 d ∧ st'.s 2 = .ptr (.loc 2) 0 ∧ st'.s 6 = .int .i64 ((pre.app (.cons nm v .nil)).len : Int) ∧
        st'.b 2 = some (.cells (Tr.cells 5 53 (.mk k t m n0 bi hi b kn ((pre.app (.cons nm v .nil)).app r)))) → LoopR fns lc48_0 st' Q) := by
      intro st' hh g1 g2 g3 ⟨e1, e2, e6, eb⟩
      refine l_docRight r (pre.app (.cons nm v .nil)) st' k t m n0 bi hi b kn d e1 e2 e6 eb hd1 hd2 (by simpa [Ks.app_assoc, Ks.app] using hL) hW.2.2 Q (fun h s2 z => hA ?_ s2 (z.trans hh)) (fun h s2 z => hB ?_ s2 (z.trans hh))
      · simp only [Ks.len_app, Ks.len] at h; simp [Ks.right, g1, g3] at g2 h ⊢; exact ⟨g2, h⟩
      · simp only [Ks.len_app, Ks.len] at h; simp [Ks.right, g1, g3] at g2 h ⊢; intro _; exact h
    have bad : ∀ st' : St, st'.h = st.h → (plainL nm && (!((k == 4) && nm != digL pre.len) && v.right (d - 1))) = false → st'.s 4 = .bool false → Q (.ret, st') := by
      intro st' hh g1 g2
      refine hB ?_ st' hh g2
      simp only [Ks.right]
      revert g1; cases plainL nm <;> cases ((k == 4) && nm != digL pre.len) <;> cases v.right (d - 1) <;> simp
    simp [h1, h2, h6, hb', hlt, Ks.av_ix, take8, len8, hp]
    cases hpl : plainL nm
    · simp [h2, hb']
      refine bad _ rfl ?_ ?_ <;> simp [hpl]
    simp [h1, h2, h6, hb', hlt, Ks.av_ix, take8, len8]
    by_cases k4 : k = 4
    · simp [k4, h1, h2, h6, hb', hlt, Ks.av_ix, take8, len8, hdig]
      generalize hnm : (nm == digL pre.len) = cc
      cases cc
      · simp [h1, h2, h6, hb', hlt, Ks.av_ix, take8, len8]
        refine bad _ rfl ?_ ?_ <;> simp_all
      simp [h1, h2, h6, hb', hlt, Ks.av_ix, take8, len8, hwd, hr]
      cases hv : v.right (d - 1)
      · simp [h1, h2, h6, hb']
        refine bad _ rfl ?_ ?_ <;> simp_all
      simp [h1, h2, h6, hb', hw2]
      refine step _ rfl hpl ?_ hv ⟨?_, ?_, ?_, ?_⟩
      · simp [k4, hnm]
      · simp [h1]
      · simp [h2]
      · simp [Ks.len_app, Ks.len]
      · simp [Tr.cells, Ks.app_assoc, Ks.app, hb', k4]
    · simp [k4, h1, h2, h6, hb', hlt, Ks.av_ix, take8, len8, hwd, hr]
      cases hv : v.right (d - 1)
      · simp [h1, h2, h6, hb']
        refine bad _ rfl ?_ ?_ <;> simp_all
      simp [h1, h2, h6, hb', hw2]
      refine step _ rfl hpl ?_ hv ⟨?_, ?_, ?_, ?_⟩
      · simp [k4]
      · simp [h1]
      · simp [h2]
      · simp [Ks.len_app, Ks.len]
      · simp [Tr.cells, Ks.app_assoc, Ks.app, hb']
end

theorem c_DocRight (v : Tr) (hW : v.wf) : ∀ hE : H, callω fns 28 [.agg (v.cells 5 53)] hE = some (.bool (v.right 200), hE) := by
  intro hE
  refine run28 (Nat.le_of_ble_eq_true rfl) ?_
  have h := c_docRight v 200 hW (by omega)
  simp only [Int.cast_ofNat_Int] at h
  cases v with
  | mk k t m n bi hi b kn ks =>
  simp only [Tr.cells] at h ⊢
  simp [h]

end Go.Proofs.YtdnfnobgeddbfaaDoor.Abs
