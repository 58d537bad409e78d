/- Vectors of numbers of 32 bits: made, as bytes. -/
import Derived.Test.YtjlioidknhdceaaDoorTR3
import Derived.Test.YtjlioidknhdceaaDoorTR6
import Derived.Test.YtjlioidknhdceaaDoorFVF
namespace Go.Proofs.YtjlioidknhdceaaDoor.Abs
set_option linter.all false
open Go.Proofs
set_option linter.unusedVariables false
set_option linter.unusedSimpArgs false
set_option maxRecDepth 100000
set_option maxHeartbeats 4000000

abbrev N32 := Fin 4294967296
def uV (x : N32) : AV := .int .u32 (x.val : Int)
def fV (x : N32) : AV := .flt .f32 x.val
theorem l_vf {b : RS} {ns : List N32} (hb : b.l = ns.map uV) (hn : ns.length ≤ 1000) : ∀ (rest pre : List N32) (st : St), ns = pre ++ rest → st.s 8 = b.fv 23 1 → st.s 9 = .int .i64 ns.length → st.s 10 = .int .i64 pre.length → st.s 4 = (RS.mk (pre.map fV)).av 38 1 →
    ∀ Q : Ex × St → Prop, (∀ st' : St, st'.h = st.h → st'.s 4 = (RS.mk (ns.map fV)).av 38 1 → Q (.exit 0, st')) → LoopR fns lc4_0 st Q
  | [], pre, st, hp, h8, h9, h10, h4, Q, hQ => by
    have hlen : ns.length = pre.length := by rw [hp]; simp
    refine loopω_run fns ?_
    simp [h8, h9, h10, hlen]
    refine hQ _ rfl ?_
    rw [hp]; simp [h4]
  | x :: rest, pre, st, hp, h8, h9, h10, h4, Q, hQ => by
    have hlen : ns.length = pre.length + (rest.length + 1) := by rw [hp]; simp
    have hlt : (pre.length : Int) < pre.length + (rest.length + 1) := by omega
    have hx := RS.fv_at' (e := 23) (b := b) (k := pre.length) (pre := pre.map uV) (r := rest.map uV) (x := uV x) (by rw [hb, hp]; simp) (by simp)
    have hw : IntKind.i64.wrap ((pre.length : Int) + 1) = pre.length + 1 := wrap_i64 (by omega) (by omega)
    have ha : apV st.h 38 1 4 false ((RS.mk (pre.map fV)).av 38 1) (.slice (.own true) 38 1 [.flt .f32 x.val]) = some ((RS.mk (pre.map fV ++ [fV x])).av 38 1) := by
      rw [← RS.mk_app]; exact RS.apV (by simp [tooLong]; omega) (by simp [tooLong]; omega)
    have hx' : ixV 1 (b.fv 23 1) (.int .i64 (pre.length : Int)) = some (.eptr (.int .u32 (x.val : Int) :: rest.map uV)) := hx
    refine loopω_run fns ?_
    simp [h8, h9, h10, h4, hlen, hlt, hx', hw, xV, fbV, ha]
    refine l_vf hb hn rest (pre ++ [x]) _ (by rw [hp]; simp) ?_ ?_ ?_ ?_ Q (fun st' q1 q2 => hQ st' ?_ q2)
    · simp [h8]
    · simp [h9, hlen]
    · simp
    · simp
    · rw [q1]
theorem cp_flt {b : RS} {ns : List N32} (hb : b.l = ns.map fV) (hn : ns.length ≤ 1000) (h : H) (s0 : Nat → AV) (b0 : Nat → Option Obj) :
    cpRow 1 false (.hsl h.n 0 38 1 ns.length) (b.fv 38 1) ⟨s0, b0, h.push (.row 38 1 (some ns.length) (repCells ns.length [.flt .f32 0]))⟩ = some (.int .i64 ns.length, ⟨s0, b0, h.push (.row 38 1 (some ns.length) (ns.map fV))⟩) := by
  have hg : (h.push (.row 38 1 (some ns.length) (repCells ns.length [.flt .f32 0]))).get h.n = some (.row 38 1 (some ns.length) (repCells ns.length [.flt .f32 0])) := by rw [H.get_push, if_pos rfl]
  have hm : moreV (h.push (.row 38 1 (some ns.length) (repCells ns.length [.flt .f32 0]))) 1 false (b.fv 38 1) = some (ns.map fV) := by
    rw [← hb]
    cases b <;> simp [RS.fv, moreV, RS.l]
  have hl : (repCells ns.length [AV.flt .f32 0]).length = ns.length := by simp [repCells]
  have hs : splice (repCells ns.length [AV.flt .f32 0]) 0 (ns.map fV) = ns.map fV := by
    unfold splice; simp [hl]
  simp only [cpRow, hm, Option.bind_some, hg, if_true]
  simp [hl, hs, -splice, List.take_of_length_le]
theorem c_NewVector {b : RS} {ns : List N32} (hb : b.l = ns.map fV) (hn : ns.length ≤ 1000) (h : H) : callω fns 10 [b.fv 38 1] h = some (.agg [.int .u8 39, .slice .nil 0 1 [], .hsl h.n 0 38 1 ns.length, .slice .nil 0 1 [], .int .u8 0], h.push (.row 38 1 (some ns.length) (ns.map fV))) := by
  have hlen : aLen false (b.fv 38 1) = some (.int .i64 ns.length) := by rw [RS.fv_len1, hb]; simp
  have hc := cp_flt hb hn h
  have k1 : 4 * (ns.length : Int) ≤ 140737488355328 := by omega
  have k2 : (ns.length : Int) ≤ 140737488355328 := by omega
  refine run10 (Nat.le_of_ble_eq_true rfl) ?_
  simp [hlen, hc, mkI, xV, taV, taOk, exV, mkV, mkN, tooLong, nnV, k1, k2]
def vecC (r n : Nat) : List AV := [.int .u8 39, .slice .nil 0 1 [], .hsl r 0 38 1 n, .slice .nil 0 1 [], .int .u8 0]
theorem c_Type (r n : Nat) (h : H) : callω fns 14 [.agg (vecC r n)] h = some (.int .u8 39, h) := by
  refine run14 (Nat.le_of_ble_eq_true rfl) ?_
  simp [vecC]
theorem mask_get (h : H) (i : Nat) : h.mask.get i = none := by simp [H.mask, H.get]
theorem c_F32OK {r n : Nat} {h : H} (hr : h.get r = none) : callω fns 16 [.agg (vecC r n)] h = some (.tup [.hsl r 0 38 1 n, .bool true], h) := by
  refine run16 (Nat.le_of_ble_eq_true rfl) ?_
  simp [vecC, hr, unpinO]
theorem c_I8OK (r n : Nat) (h : H) : callω fns 15 [.agg (vecC r n)] h = some (.tup [.slice .nil 0 1 [], .bool false], h) := by
  refine run15 (Nat.le_of_ble_eq_true rfl) ?_
  simp [vecC]
theorem c_BitOK (r n : Nat) (h : H) : callω fns 18 [.agg (vecC r n)] h = some (.tup [.slice .nil 0 1 [], .int .u8 0, .bool false], h) := by
  refine run18 (Nat.le_of_ble_eq_true rfl) ?_
  simp [vecC]
theorem c_F32 {r n : Nat} {h : H} (hg : h.get r = none) (hr : r < h.n) : callω fns 22 [.agg (vecC r n)] h = some (.hsl r 0 38 1 n, h) := by
  have h1 := c_F32OK (r := r) (n := n) (mask_get h r)
  unfold vecC at *
  refine run22 (Nat.le_of_ble_eq_true rfl) ?_
  simp [h1, ex2_0, ex2_1, noHeap, AV.old, oldL, hr, hg, unpinO]
theorem u8_byteOf (m : Int) : IntKind.u8.wrap m = ((byteOf m).toNat : Int) := by
  rw [byteOf_toNat]; simp [IntKind.wrap, IntKind.signed, IntKind.bits]
theorem c_Put {h : H} {i : Nat} {c0 c1 c2 c3 : Int} {x : N32} (hi : h.get i = some (.cells [.int .u8 c0, .int .u8 c1, .int .u8 c2, .int .u8 c3])) :
    callω fns 29 [.agg [], .hsl i 0 5 1 4, .int .u32 (x.val : Int)] h = some (.tup [], h.set i (.cells (byteCells (le32 (x.val : Int))))) := by
  have hg := H.get_set_same hi
  have hset := H.set_get hi
  have f1 : ((x.val : Int)).fdiv 256 = (x.val : Int) / 256 := Int.fdiv_eq_ediv_of_nonneg _ (by omega)
  have f2 : ((x.val : Int)).fdiv 65536 = (x.val : Int) / 65536 := Int.fdiv_eq_ediv_of_nonneg _ (by omega)
  have f3 : ((x.val : Int)).fdiv 16777216 = (x.val : Int) / 16777216 := Int.fdiv_eq_ediv_of_nonneg _ (by omega)
  refine run29 (Nat.le_of_ble_eq_true rfl) ?_
  simp [hi, hg, hset, ixV, aShift, IntKind.bits, f1, f2, f3, u8_byteOf, le32, byteCells]
end Go.Proofs.YtjlioidknhdceaaDoor.Abs
