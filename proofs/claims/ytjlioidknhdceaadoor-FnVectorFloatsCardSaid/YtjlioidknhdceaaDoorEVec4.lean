/- A binary, read as a vector. -/
import Derived.Test.YtjlioidknhdceaaDoorEVec3
namespace Go.Proofs.YtjlioidknhdceaaDoor.Abs
set_option linter.all false
open Go.Proofs
set_option linter.unusedVariables false
set_option linter.unusedSimpArgs false
set_option maxRecDepth 100000
set_option maxHeartbeats 4000000

theorem l_vo {ns : List N32} {m r : Nat} {c0 c1 c3 c4 : AV} (hm : ns.length = m) (hn : m ≤ 1000) : ∀ (rest pre : List N32) (st : St), ns = pre ++ rest → st.h.get r = some (.row 38 1 (some m) (ns.map fV)) → st.s 50 = .hsl r 0 38 1 m → st.s 51 = .int .i64 m → st.s 52 = .int .i64 pre.length → st.s 8 = .ptr (.loc 8) 0 →
    st.b 8 = some (.cells [c0, c1, (RS.mk (pre.map uV)).av 23 1, c3, c4]) →
    ∀ Q : Ex × St → Prop, (∀ st' : St, st'.h = st.h → (∀ k, k ≠ 8 → st'.b k = st.b k) → st'.b 8 = some (.cells [c0, c1, (RS.mk (ns.map uV)).av 23 1, c3, c4]) → st'.s 4 = st.s 4 → st'.s 6 = st.s 6 → st'.s 8 = st.s 8 → Q (.exit 0, st')) → LoopR fns lc5_0 st Q
  | [], pre, st, hp, hr, h50, h51, h52, h8, hb, Q, hQ => by
    have hlen : m = pre.length := by rw [← hm, hp]; simp
    refine loopω_run fns ?_
    simp [h50, h51, h52, hlen]
    refine hQ _ rfl (fun _ _ => rfl) ?_ (by simp) (by simp) (by simp)
    rw [hp]; simpa using hb
  | x :: rest, pre, st, hp, hr, h50, h51, h52, h8, hb, Q, hQ => by
    have hlen : m = pre.length + (rest.length + 1) := by rw [← hm, hp]; simp
    have hlt : (pre.length : Int) < m := by omega
    have hlt' : pre.length < m := by omega
    have hx : (ns.map fV)[pre.length]? = some (.flt .f32 x.val) := by rw [hp]; simp [fV]
    have hw : IntKind.i64.wrap ((pre.length : Int) + 1) = pre.length + 1 := wrap_i64 (by omega) (by omega)
    have hset := H.set_get hr
    have ha : apV st.h 23 1 4 false ((RS.mk (pre.map uV)).av 23 1) (.slice (.own true) 23 1 [.int .u32 (x.val : Int)]) = some ((RS.mk (pre.map uV ++ [uV x])).av 23 1) := by
      rw [← RS.mk_app]; exact RS.apV (by simp [tooLong]; omega) (by simp [tooLong]; omega)
    refine loopω_run fns ?_
    simp [h50, h51, h52, h8, hb, hlt, hlt', hr, hx, hset, hw, xV, fbV, ha, ixV, AV.isOwn]
    refine l_vo (r := r) hm hn rest (pre ++ [x]) _ (by rw [hp]; simp) ?_ ?_ ?_ ?_ ?_ ?_ Q (fun st' q1 q2 q3 q4 q5 q6 => hQ st' (by rw [q1]) (fun k hk => by rw [q2 k hk]; simp [upd, hk]) q3 (by rw [q4]; simp) (by rw [q5]; simp) (by rw [q6]; simp))
    · simpa using hr
    · simp [h50]
    · simp [h51]
    · simp
    · simp [h8]
    · simp
theorem old_u (b : Nat) (ns : List N32) : oldL b (ns.map uV) = true := by
  induction ns with
  | nil => rfl
  | cons x r ih => simp [oldL, AV.old, uV] at *; exact ih
def vecI (b : RS) : List AV := [.int .i64 39, .slice .nil 0 1 [], b.fv 23 1, .slice .nil 0 1 [], .int .i64 0]
theorem c_VectorOf {ns : List N32} {m : Nat} (hm : ns.length = m) (hn : m ≤ 1000) (h : H) :
    callv fns 5 [.int .i64 9, .slice .frz 5 1 (byteCells (39 :: 0 :: lesB ns))] h = some (.tup [.agg (vecI (RS.mk (ns.map uV))), .bool true]) := by
  refine (callv_spec fns).2 ?_
  have hF := c_fromBin hm hn h
  refine runs5 (Nat.le_of_ble_eq_true rfl) ?_
  have w9 : IntKind.u8.wrap 9 = 9 := rfl
  simp [w9]
  refine gH_use hF (fun v h' hq => ?_)
  injection hq with e1 e2
  subst e1; subst e2
  have hg : (h.push (.row 38 1 (some m) (ns.map fV))).get h.n = some (.row 38 1 (some m) (ns.map fV)) := by rw [H.get_push, if_pos rfl]
  generalize hK : h.push (.row 38 1 (some m) (ns.map fV)) = K at *
  have hlt := H.lt_of_get hg
  have t1 := c_Type h.n m K.mask
  have t2 := c_I8OK h.n m K.mask
  have t3 := c_F32OK (r := h.n) (n := m) (mask_get K h.n)
  have t4 := c_BitOK h.n m K.mask
  unfold vecC at *
  have w39 : IntKind.i64.wrap 39 = 39 := rfl
  simp [ex2_0, ex2_1, t1, t2, t3, noHeap, AV.old, oldL, hlt, w39]
  refine l_vo (r := h.n) (c0 := .int .i64 39) (c1 := .slice .nil 0 1 []) (c3 := .slice .nil 0 1 []) (c4 := .int .i64 0) hm hn ns [] _ rfl ?_ ?_ ?_ ?_ ?_ ?_ _ (fun st' q1 q2 q3 q4 q5 q6 => ?_)
  · simpa using hg
  · simp
  · simp
  · simp
  · simp
  · simp; rfl
  · have b6 := q2 6 (by omega)
    have b4 := q2 4 (by omega)
    simp at q1 q4 q5 q6 b6 b4
    simp [q1, q3, q4, q5, q6, b6, b4, t4, ex3_0, ex3_1, ex3_2, vecI, old_u]
theorem sh8 (x : N32) : (x.val : Int).fdiv 256 = (x.val : Int) / 256 ∧ (x.val : Int).fdiv 65536 = (x.val : Int) / 65536 ∧ (x.val : Int).fdiv 16777216 = (x.val : Int) / 16777216 :=
  ⟨Int.fdiv_eq_ediv_of_nonneg _ (by omega), Int.fdiv_eq_ediv_of_nonneg _ (by omega), Int.fdiv_eq_ediv_of_nonneg _ (by omega)⟩
theorem l_vb {b : RS} {ns : List N32} (hb : b.l = ns.map uV) (hn : ns.length ≤ 1000) : ∀ (rest pre : List N32) (out : List UInt8) (st : St), ns = pre ++ rest → st.s 35 = b.fv 23 1 → st.s 36 = .int .i64 ns.length → st.s 37 = .int .i64 pre.length → st.s 3 = .slice (.own true) 5 1 (byteCells out) → out.length ≤ 2 + 4 * pre.length →
    ∀ Q : Ex × St → Prop, (∀ st' : St, st'.h = st.h → st'.s 3 = .slice (.own true) 5 1 (byteCells (out ++ lesB rest)) → Q (.exit 3, st')) → LoopR fns lc7_1 st Q
  | [], pre, out, st, hp, h35, h36, h37, h3, ho, Q, hQ => by
    have hlen : ns.length = pre.length := by rw [hp]; simp
    refine loopω_run fns ?_
    simp [h35, h36, h37, hlen]
    refine hQ _ rfl ?_
    simp [h3, lesB]
  | x :: rest, pre, out, st, hp, h35, h36, h37, h3, ho, Q, hQ => by
    have hlen : ns.length = pre.length + (rest.length + 1) := by rw [hp]; simp
    have hlt : (pre.length : Int) < pre.length + (rest.length + 1) := by omega
    have hx : ixV 1 (b.fv 23 1) (.int .i64 (pre.length : Int)) = some (.eptr (.int .u32 (x.val : Int) :: rest.map uV)) := RS.fv_at' (e := 23) (b := b) (k := pre.length) (pre := pre.map uV) (r := rest.map uV) (x := uV x) (by rw [hb, hp]; simp) (by simp)
    have hw : IntKind.i64.wrap ((pre.length : Int) + 1) = pre.length + 1 := wrap_i64 (by omega) (by omega)
    obtain ⟨f1, f2, f3⟩ := sh8 x
    have ha : apV st.h 5 1 1 false (.slice (.own true) 5 1 (byteCells out)) (.slice (.own true) 5 1 [.int .u8 ((byteOf (x.val : Int)).toNat : Int), .int .u8 ((byteOf ((x.val : Int) / 256)).toNat : Int), .int .u8 ((byteOf ((x.val : Int) / 65536)).toNat : Int), .int .u8 ((byteOf ((x.val : Int) / 16777216)).toNat : Int)]) = some (.slice (.own true) 5 1 (byteCells (out ++ le32 (x.val : Int)))) := apV_lit rfl (by simp [tooLong, le32_length]; omega)
    refine loopω_run fns ?_
    simp [h35, h36, h37, h3, hlen, hlt, hx, hw, aShift, IntKind.bits, f1, f2, f3, u8_byteOf, ha]
    refine l_vb hb hn rest (pre ++ [x]) (out ++ le32 (x.val : Int)) _ (by rw [hp]; simp) ?_ ?_ ?_ ?_ (by simp [le32_length]; omega) Q (fun st' q1 q2 => hQ st' (by rw [q1]) (by rw [q2, List.append_assoc]; rfl))
    · simp [h35]
    · simp [h36, hlen]
    · simp
    · simp
theorem c_VectorBytes {b : RS} {ns : List N32} (hb : b.l = ns.map uV) (hn : ns.length ≤ 1000) : ∀ h : H, callω fns 7 [.agg (vecI b)] h = some (.slice (.own true) 5 1 (byteCells (39 :: 0 :: lesB ns)), h) := by
  intro h
  have hlen : aLen false (b.fv 23 1) = some (.int .i64 ns.length) := by rw [RS.fv_len1, hb]; simp
  have w1 : IntKind.u8.wrap 39 = 39 := rfl
  have w2 : IntKind.u8.wrap 0 = 0 := rfl
  refine run7 (Nat.le_of_ble_eq_true rfl) ?_
  simp [vecI, hlen, w1, w2]
  refine l_vb hb hn ns [] [39, 0] _ rfl ?_ ?_ ?_ ?_ (by simp) _ (fun st' q1 q2 => ?_)
  · simp
  · simp
  · simp
  · simp; rfl
  · simp at q1
    simp [q1, q2]
theorem c_vecBytes (l1 l2 : List UInt8) : ∀ h : H, callω fns 6 [.slice .frz 5 1 (byteCells l1), .slice .frz 5 1 (byteCells l2)] h = some (.bool (decide (l1 = l2)), h) := by
  intro h
  have h1 := bytesOf_cells l1
  have h2 := bytesOf_cells l2
  refine run6 (Nat.le_of_ble_eq_true rfl) ?_
  simp [cvBS, h1, h2]
  by_cases e : l1 = l2 <;> simp [e]
end Go.Proofs.YtjlioidknhdceaaDoor.Abs
