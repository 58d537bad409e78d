/- A vector of numbers of 32 bits, as bytes. -/
import Derived.Test.YtjlioidknhdceaaDoorEVec
namespace Go.Proofs.YtjlioidknhdceaaDoor.Abs
set_option linter.all false
open Go.Proofs
set_option linter.unusedVariables false
set_option linter.unusedSimpArgs false
set_option maxRecDepth 100000
set_option maxHeartbeats 4000000

theorem gH_use {fns : FuncId → Option AFunc} {Q : Ex × St → Prop} {s : List Fr} {f : FuncId} {acc : List AV} {p : AV × H → Prop} {h0 : H} {d : Option Nat} {l : List AOper} {c : ACode} {st : St} (h : CW fns f acc h0 p)
    (k : ∀ v h', p (v, h') → GoO fns Q s l c (St.put ⟨st.s, st.b, h'⟩ d v)) (e : st.h = h0 := by rfl) : GH fns Q s (callω fns f acc h0) f acc d l c st := by
  subst e; exact gH_of h k
/- used: runs11 runs4 runs27 runs13 runs5 runs21 -/
def lesB (ns : List N32) : List UInt8 := ns.flatMap fun x => le32 (x.val : Int)
theorem lesB_length (a : List N32) : (lesB a).length = 4 * a.length := by
  induction a with
  | nil => rfl
  | cons x r ih => simp [lesB, le32_length] at *; omega
def A4 (h : H) (a : Nat) : Prop := ∃ c0 c1 c2 c3 : Int, h.get a = some (.cells [.int .u8 c0, .int .u8 c1, .int .u8 c2, .int .u8 c3])
theorem A4_le {h : H} {a : Nat} {x : N32} (hg : h.get a = some (.cells (byteCells (le32 (x.val : Int))))) : A4 h a := ⟨_, _, _, _, hg⟩
theorem ap_le {h : H} {a : Nat} {x : N32} {out : List UInt8} (hg : h.get a = some (.cells (byteCells (le32 (x.val : Int))))) (ho : out.length ≤ 10000) :
    apV h 5 1 1 false (.slice (.own true) 5 1 (byteCells out)) (.hsl a 0 5 1 4) = some (.slice (.own true) 5 1 (byteCells (out ++ le32 (x.val : Int)))) := by
  have hl : (byteCells (le32 (x.val : Int))).length = 4 := by simp [byteCells, le32_length]
  have hh : hcells h a 0 4 = some (byteCells (le32 (x.val : Int))) := by
    simp [hcells, hg, hl]
    refine ⟨?_, by rw [List.take_of_length_le (by omega)]⟩
    intro y hy
    simp only [byteCells, List.mem_map] at hy
    obtain ⟨c, _, rfl⟩ := hy
    rfl
  have h1 : (byteCells out).length = out.length := by simp [byteCells]
  have hb : out.length + 4 ≤ 140737488355328 := by omega
  simp [apV, moreV, hh, hl, h1, tooLong, hb]
  simp [byteCells]

theorem l_bin {ns : List N32} {r a : Nat} (hra : r ≠ a) (hn : ns.length ≤ 1000) : ∀ (rest pre : List N32) (out : List UInt8) (st : St), ns = pre ++ rest → st.h.get r = some (.row 38 1 (some ns.length) (ns.map fV)) → A4 st.h a → st.s 3 = .slice (.own true) 5 1 (byteCells out) → out.length ≤ 2 + 4 * pre.length →
    st.s 4 = .ptr (.obj a) 0 → st.s 16 = .hsl r 0 38 1 ns.length → st.s 17 = .int .i64 ns.length → st.s 18 = .int .i64 pre.length →
    ∀ Q : Ex × St → Prop, (∀ st' : St, st'.s 2 = st.s 2 → st'.b = st.b → st'.s 3 = .slice (.own true) 5 1 (byteCells (out ++ lesB rest)) → Q (.exit 0, st')) → LoopR fns lc21_0 st Q
  | [], pre, out, st, hp, hr, hA, h3, ho, h4, h16, h17, h18, Q, hQ => by
    have hlen : ns.length = pre.length := by rw [hp]; simp
    refine loopω_run fns ?_
    simp [h16, h17, h18, hlen]
    refine hQ _ (by simp) rfl ?_
    simp [h3, lesB]
  | x :: rest, pre, out, st, hp, hr, hA, h3, ho, h4, h16, h17, h18, Q, hQ => by
    have hlen : ns.length = pre.length + (rest.length + 1) := by rw [hp]; simp
    have hlt : (pre.length : Int) < pre.length + (rest.length + 1) := by omega
    have hx : (ns.map fV)[pre.length]? = some (.flt .f32 x.val) := by rw [hp]; simp [fV]
    have hw : IntKind.i64.wrap ((pre.length : Int) + 1) = pre.length + 1 := wrap_i64 (by omega) (by omega)
    obtain ⟨c0, c1, c2, c3, hA⟩ := hA
    have hput := c_Put (x := x) hA
    have hg := H.get_set_same hA (.cells (byteCells (le32 (x.val : Int))))
    have hg2 : (st.h.set a (.cells (byteCells (le32 (x.val : Int))))).get r = some (.row 38 1 (some ns.length) (ns.map fV)) := by rw [H.get_set_ne _ _ hra]; exact hr
    have hap := ap_le (out := out) hg (by omega)
    have hset := H.set_get hr
    have c1' : (pre.length : Int) < ns.length := by omega
    refine loopω_run fns ?_
    simp [h3, h4, h16, h17, h18, hlt, c1', ixV, hr, hx, hset, xV, fbV, saV, hA, hput, hg, hap, hw]
    refine l_bin hra hn rest (pre ++ [x]) (out ++ le32 (x.val : Int)) _ (by rw [hp]; simp) ?_ ?_ ?_ (by simp [le32_length]; omega) ?_ ?_ ?_ ?_ Q (fun st' q1 q2 q3 => hQ st' ?_ ?_ ?_)
    · simpa using hg2
    · exact A4_le (x := x) (by simpa using hg)
    · simp
    · simp [h4]
    · simp [h16]
    · simp [h17]
    · simp
    · rw [q1]; simp
    · rw [q2]
    · rw [q3, List.append_assoc]; rfl
theorem rep2 (k : Nat) (z : AV) : repCells (k + 2) [z] = z :: z :: repCells k [z] := by simp [repCells, List.replicate_succ]
theorem c_bin {ns : List N32} {m r : Nat} {h : H} (hm : ns.length = m) (hn : m ≤ 1000) (hr : h.get r = some (.row 38 1 (some m) (ns.map fV))) :
    CW fns 21 [.hsl r 0 38 1 m] h fun q => q.1 = .agg [.int .u8 9, .slice .frz 5 1 (byteCells (39 :: 0 :: lesB ns))] := by
  refine runs21 (Nat.le_of_ble_eq_true rfl) ?_
  have w1 : IntKind.i64.wrap ((m : Int) * 4) = m * 4 := wrap_i64 (by omega) (by omega)
  have w2 : IntKind.i64.wrap ((m : Int) * 4 + 2) = m * 4 + 2 := wrap_i64 (by omega) (by omega)
  have k1 : (2 : Int) ≤ (m : Int) * 4 + 2 := by omega
  have k2 : (m : Int) * 4 + 2 ≤ 140737488355328 := by omega
  have k3 : ((m : Int) * 4 + 2).toNat = m * 4 + 2 := by omega
  have hZ : (repCells (m * 4) [AV.int .u8 0]).length = m * 4 := by simp [repCells]
  generalize hz : repCells (m * 4) [AV.int .u8 0] = Z at *
  have hlt := H.lt_of_get hr
  have gr : ((h.push (.row 5 1 (some (m * 4 + 2)) (.int .u8 39 :: .int .u8 0 :: Z))).push (.cells [.int .u8 0, .int .u8 0, .int .u8 0, .int .u8 0])).get r = some (.row 38 1 (some m) (ns.map fV)) := by rw [H.get_push_ne _ _ (by simp; omega), H.get_push_ne _ _ (by omega)]; exact hr
  have gd : ((h.push (.row 5 1 (some (m * 4 + 2)) (.int .u8 39 :: .int .u8 0 :: Z))).push (.cells [.int .u8 0, .int .u8 0, .int .u8 0, .int .u8 0])).get h.n = some (.row 5 1 (some (m * 4 + 2)) (.int .u8 39 :: .int .u8 0 :: Z)) := by rw [H.get_push_ne _ _ (by simp), H.get_push, if_pos rfl]
  have ga : ((h.push (.row 5 1 (some (m * 4 + 2)) (.int .u8 39 :: .int .u8 0 :: Z))).push (.cells [.int .u8 0, .int .u8 0, .int .u8 0, .int .u8 0])).get (h.n + 1) = some (.cells [.int .u8 0, .int .u8 0, .int .u8 0, .int .u8 0]) := by rw [H.get_push, if_pos (by simp)]
  simp [w1, w2, k1, k2, k3, mkV, mkN, tooLong, ixV, AV.isOwn, rep2, hz]
  generalize hK : (h.push (.row 5 1 (some (m * 4 + 2)) (.int .u8 39 :: .int .u8 0 :: Z))).push (.cells [.int .u8 0, .int .u8 0, .int .u8 0, .int .u8 0]) = K at *
  by_cases h0 : m = 0
  · have hns : ns = [] := List.eq_nil_of_length_eq_zero (by omega)
    have hZ0 : Z = [] := List.eq_nil_of_length_eq_zero (by omega)
    subst hns; subst hZ0
    have h0' : ¬ (0 : Int) < m := by omega
    refine loopω_run fns ?_
    simp [h0, h0', gd, lesB, byteCells]
  · have h0' : (0 : Int) < m := by omega
    match ns, hm with
    | [], hm => exact absurd hm.symm h0
    | x :: rest, hm =>
    have hput := c_Put (x := x) ga
    have hpos : 0 < m := by omega
    have hne : h.n ≠ h.n + 1 := by omega
    have hrn : r ≠ h.n + 1 := by omega
    have gd2 : (K.set (h.n + 1) (.cells (byteCells (le32 (x.val : Int))))).get h.n = some (.row 5 1 (some (m * 4 + 2)) (.int .u8 39 :: .int .u8 0 :: Z)) := by rw [H.get_set_ne _ _ hne]; exact gd
    have ga2 : ((K.set (h.n + 1) (.cells (byteCells (le32 (x.val : Int))))).del h.n).get (h.n + 1) = some (.cells (byteCells (le32 (x.val : Int)))) := by
      rw [H.get_del, if_neg (by omega)]; exact H.get_set_same ga _
    have gr2 : ((K.set (h.n + 1) (.cells (byteCells (le32 (x.val : Int))))).del h.n).get r = some (.row 38 1 (some m) ((x :: rest).map fV)) := by
      rw [H.get_del, if_neg (by omega), H.get_set_ne _ _ hrn]; exact gr
    have hap : apV ((K.set (h.n + 1) (.cells (byteCells (le32 (x.val : Int))))).del h.n) 5 1 1 false (.slice (.own true) 5 1 [.int .u8 39, .int .u8 0]) (.hsl (h.n + 1) 0 5 1 4) = some (.slice (.own true) 5 1 (byteCells ([39, 0] ++ le32 (x.val : Int)))) := ap_le (out := [39, 0]) ga2 (by simp)
    have ga3 := H.get_set_same ga (.cells (byteCells (le32 (x.val : Int))))
    have hset := H.set_get gr
    have hZ1 : ¬ Z = [] := fun e => by subst e; simp at hZ; omega
    have hnx : (List.map fV (x :: rest)) = .flt .f32 x.val :: rest.map fV := rfl
    rw [hnx] at hset gr
    refine loopω_run fns ?_
    simp [h0', hpos, gr, gd, gd2, xV, fbV, saV, ga, ga2, ga3, hput, ixV, fV, hset, hap, hZ1]
    refine l_bin (ns := x :: rest) (r := r) (a := h.n + 1) hrn (by omega) rest [x] ([39, 0] ++ le32 (x.val : Int)) _ rfl ?_ ?_ ?_ (by simp [le32_length]) ?_ ?_ ?_ ?_ _ (fun st' q1 q2 q3 => ?_)
    · rw [hm]; simpa using gr2
    · exact A4_le (x := x) (by simpa using ga2)
    · simp
    · simp
    · rw [hm]; simp
    · rw [hm]; simp
    · simp; rfl
    · have hl : [39, 0] ++ le32 (x.val : Int) ++ lesB rest = 39 :: 0 :: lesB (x :: rest) := rfl
      rw [hl] at q3
      simp at q1 q2
      simp [q1, q2, q3]
theorem c_Binary {ns : List N32} {m r : Nat} {h : H} (hm : ns.length = m) (hn : m ≤ 1000) (hr : h.get r = some (.row 38 1 (some m) (ns.map fV))) :
    CW fns 11 [.agg (vecC r m)] h fun q => q.1 = .agg [.int .u8 9, .slice .frz 5 1 (byteCells (39 :: 0 :: lesB ns))] := by
  have hlt := H.lt_of_get hr
  have h1 := c_Type r m h.mask
  have h2 := c_F32 (r := r) (n := m) (mask_get h r) (by simpa using hlt)
  have h3 := c_bin hm hn hr
  unfold vecC at *
  refine runs11 (Nat.le_of_ble_eq_true rfl) ?_
  simp [h1, h2, noHeap, AV.old, hlt]
  refine gH_use h3 (fun v h' hq => ?_)
  simp only at hq
  subst hq
  simp
theorem c_own {l : List UInt8} (hl : l.length ≤ 1000000) (hne : l ≠ []) : ∀ h : H, callω fns 12 [.slice .frz 5 1 (byteCells l)] h = some (.slice (.own true) 5 1 (byteCells l), h) := by
  intro h
  refine run12 (Nat.le_of_ble_eq_true rfl) ?_
  have h1 : ∀ h : H, apV h 5 1 1 false (.slice .nil 0 1 []) (.slice .frz 5 1 (byteCells l)) = some (.slice (.own true) 5 1 (byteCells l)) := fun h => by
    have := apV_b (hp := h) (e := 5) (o := some l) (b := .nil) (by simp [BS.l, tooLong]; omega)
    have e : (BS.nil.app l).av 5 = .slice (.own true) 5 1 (byteCells l) := by
      cases l with
      | nil => exact absurd rfl hne
      | cons a r => rfl
    rw [← e]; exact this
  simp [h1]
theorem c_VectorFloat32 {b : RS} {ns : List N32} (hb : b.l = ns.map uV) (hn : ns.length ≤ 1000) (h : H) :
    callv fns 4 [b.fv 23 1] h = some (.tup [.int .i64 9, .slice (.own true) 5 1 (byteCells (39 :: 0 :: lesB ns))]) := by
  refine (callv_spec fns).2 ?_
  have hlen : aLen false (b.fv 23 1) = some (.int .i64 ns.length) := by rw [RS.fv_len1, hb]; simp
  refine runs4 (Nat.le_of_ble_eq_true rfl) ?_
  simp [hlen]
  refine l_vf hb hn ns [] _ rfl ?_ ?_ ?_ ?_ _ (fun st' q1 q2 => ?_)
  · simp
  · simp
  · simp
  · simp; rfl
  · simp at q1
    have h1 := c_NewVector (b := RS.mk (ns.map fV)) (by simp) hn h
    have hg : (h.push (.row 38 1 (some ns.length) (ns.map fV))).get h.n = some (.row 38 1 (some ns.length) (ns.map fV)) := by rw [H.get_push, if_pos rfl]
    have h2 := c_Binary rfl hn hg
    unfold vecC at h2
    simp [q1, q2, h1]
    refine gH_use h2 (fun v h' hq => ?_)
    simp only at hq
    subst hq
    have ho := c_own (l := 39 :: 0 :: lesB ns) (by simp [lesB_length]; omega) (by simp) h'.mask
    simp [ho]; rfl
end Go.Proofs.YtjlioidknhdceaaDoor.Abs
