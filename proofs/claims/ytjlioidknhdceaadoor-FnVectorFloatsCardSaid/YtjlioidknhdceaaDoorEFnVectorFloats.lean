/- What the law's function FnVectorFloats computes. -/
import Derived.Test.YtjlioidknhdceaaDoorEVec4
namespace Go.Proofs.YtjlioidknhdceaaDoor.Abs
set_option linter.all false
open Go.Proofs
set_option linter.unusedVariables false
set_option linter.unusedSimpArgs false
set_option maxRecDepth 100000
set_option maxHeartbeats 4000000

theorem c_vecSame {b b' : RS} {ns : List N32} (hb : b.l = ns.map uV) (hb' : b'.l = ns.map uV) (hn : ns.length ≤ 1000) : ∀ h : H, callω fns 8 [.agg (vecI b), .agg (vecI b')] h = some (.bool true, h) := by
  intro h
  have h1 := c_VectorBytes hb hn
  have h2 := c_VectorBytes hb' hn
  have h3 := c_vecBytes (39 :: 0 :: lesB ns) (39 :: 0 :: lesB ns)
  refine run8 (Nat.le_of_ble_eq_true rfl) ?_
  unfold vecI at *
  simp [h1, h2, h3]
theorem l_chk {b : RS} {ns : List N32} (hb : b.l = ns.map uV) (hn : ns.length ≤ 1000) : ∀ (rest pre : List N32) (st : St), ns = pre ++ rest → st.s 16 = b.fv 23 1 → st.s 17 = .int .i64 ns.length → st.s 18 = .int .i64 pre.length →
    ∀ Q : Ex × St → Prop, (∀ st' : St, st'.h = st.h → st'.s 2 = .bool true → Q (.ret, st')) → (∀ st' : St, st'.h = st.h → st'.s 0 = st.s 0 → Q (.exit 0, st')) → LoopR fns lc3_0 st Q
  | [], pre, st, hp, h8, h9, h10, Q, hR, hQ => by
    have hlen : ns.length = pre.length := by rw [hp]; simp
    refine loopω_run fns ?_
    simp [h8, h9, h10, hlen]
    exact hQ _ rfl (by simp)
  | x :: rest, pre, st, hp, h8, h9, h10, Q, hR, hQ => by
    have hlen : ns.length = pre.length + (rest.length + 1) := by rw [hp]; simp
    have hlt : (pre.length : Int) < pre.length + (rest.length + 1) := by omega
    have hx : ixV 1 (b.fv 23 1) (.int .i64 (pre.length : Int)) = some (.eptr (.int .u32 (x.val : Int) :: rest.map uV)) := RS.fv_at' (e := 23) (b := b) (k := pre.length) (pre := pre.map uV) (r := rest.map uV) (x := uV x) (by rw [hb, hp]; simp) (by simp)
    have hw : IntKind.i64.wrap ((pre.length : Int) + 1) = pre.length + 1 := wrap_i64 (by omega) (by omega)
    refine loopω_run fns ?_
    by_cases c1 : andI .u32 ((x.val : Int).fdiv 8388608) 255 = 255
    · by_cases c2 : andI .u32 (x.val : Int) 8388607 = 0
      · simp [h8, h9, h10, hlen, hlt, hx, hw, aShift, IntKind.bits, c1, c2]
        refine l_chk hb hn rest (pre ++ [x]) _ (by rw [hp]; simp) ?_ ?_ ?_ Q (fun st' q1 q2 => hR st' (by rw [q1]) q2) (fun st' q1 q2 => hQ st' (by rw [q1]) (by rw [q2]; simp))
        · simp [h8]
        · simp [h9, hlen]
        · simp
      · simp [h8, h9, h10, hlen, hlt, hx, hw, aShift, IntKind.bits, c1, c2]
        exact hR _ rfl (by simp)
    · simp [h8, h9, h10, hlen, hlt, hx, hw, aShift, IntKind.bits, c1]
      refine l_chk hb hn rest (pre ++ [x]) _ (by rw [hp]; simp) ?_ ?_ ?_ Q (fun st' q1 q2 => hR st' (by rw [q1]) q2) (fun st' q1 q2 => hQ st' (by rw [q1]) (by rw [q2]; simp))
      · simp [h8]
      · simp [h9, hlen]
      · simp
theorem law_FnVectorFloats (b : RS) (ns : List N32) (hb : b.l = ns.map uV) (_ : ns.length ≤ reachBytes) (h : H) : CW fns 3 [b.fv 23 1] h fun q => q.1 = .bool true := by
  have hlen : aLen false (b.fv 23 1) = some (.int .i64 ns.length) := by rw [RS.fv_len1, hb]; simp
  refine runs3 (Nat.le_of_ble_eq_true rfl) ?_
  by_cases k1 : (2147483647 : Int) < ns.length
  · simp [hlen, k1]
  by_cases k2 : (500 : Int) < ns.length
  · simp [hlen, k1, k2]
  have hn : ns.length ≤ 1000 := by omega
  simp [hlen, k1, k2]
  refine l_chk hb hn ns [] _ rfl ?_ ?_ ?_ _ (fun st' q1 q2 => ?_) (fun st' q1 q2 => ?_)
  · simp
  · simp
  · simp
  · simp [q2]
  · simp at q1 q2
    have e1 := c_VectorFloat32 hb hn
    have e2 := c_VectorOf (ns := ns) rfl hn
    have e3 := c_VectorBytes hb hn
    have e4 := c_vecBytes (39 :: 0 :: lesB ns) (39 :: 0 :: lesB ns)
    have e5 := c_vecSame hb (b' := RS.mk (ns.map uV)) (by simp) hn
    have e6 : aLen false ((RS.mk (ns.map uV)).fv 23 1) = some (.int .i64 ns.length) := by rw [RS.fv_len1]; simp
    unfold vecI at *
    simp [q2, e1, e2, e3, e4, e5, e6, hlen, ex2_0, ex2_1]
end Go.Proofs.YtjlioidknhdceaaDoor.Abs
