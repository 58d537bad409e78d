/- bytes.Buffer on the heap: room, growth. -/
import Derived.Test.YtpinoabhaaemfaaDoorTQ1
import Derived.Test.YtpinoabhaaemfaaDoorA30
import Derived.Test.YtpinoabhaaemfaaDoorFTQ
namespace Go.Proofs.YtpinoabhaaemfaaDoor.Abs
set_option linter.all false
open Go.Proofs
set_option linter.unusedVariables false
set_option linter.unusedSimpArgs false
set_option maxRecDepth 100000
set_option maxHeartbeats 4000000

theorem gH_use {fns : FuncId → Option AFunc} {Q : Ex × St → Prop} {s : List Fr} {f : FuncId} {acc : List AV} {p : AV × H → Prop} {h0 : H} {d : Option Nat} {l : List AOper} {c : ACode} {st : St} (h : CW fns f acc h0 p)
    (k : ∀ v h', p (v, h') → GoO fns Q s l c (St.put ⟨st.s, st.b, h'⟩ d v)) (e : st.h = h0 := by rfl) : GH fns Q s (callω fns f acc h0) f acc d l c st := by
  subst e; exact gH_of h k
def bufC (j m : Nat) (lr : Int) : Obj := .cells [.hsl j 0 5 1 m, .int .i64 0, .int .i8 lr]
def bufN (lr : Int) : Obj := .cells [.slice .nil 0 1 [], .int .i64 0, .int .i8 lr]
def z64 : List UInt8 := List.replicate 64 0
theorem rep64 : repCells 64 [.int .u8 0] = byteCells z64 := rfl
theorem w00 : IntKind.i64.wrap 0 = 0 := rfl
def bufR (N : Nat) (D : List UInt8) : Obj := .row 5 1 (some N) (byteCells D)

theorem try_yes {h : H} {i j m n N : Nat} {lr : Int} {D : List UInt8} (hi : h.get i = some (bufC j m lr)) (hj : h.get j = some (bufR N D)) (hN : N ≤ maxLen) (hn : m + n ≤ N) (hs : m + n ≤ 1000000000) :
    callω fns 20 [.ptr (.obj i) 0, .int .i64 n] h = some (.tup [.int .i64 m, .bool true], h.set i (bufC j (m + n) lr)) := by
  unfold bufC bufR at *
  have hset := H.set_get hi
  have w1 : IntKind.i64.wrap ((N : Int) - m) = N - m := by unfold maxLen at hN; exact wrap_i64 (by omega) (by omega)
  have w2 : IntKind.i64.wrap ((m : Int) + n) = m + n := wrap_i64 (by omega) (by omega)
  have c1 : (n : Int) ≤ N - m := by omega
  have c3 : ((m : Int) + n).toNat = m + n := by omega
  have hro : roomTo h j (m + n) = true := by unfold roomTo; rw [hj]; simpa using hn
  have c4 : (0 : Int) ≤ (m : Int) + n := by omega
  refine run20 (Nat.le_of_ble_eq_true rfl) ?_
  simp [nnV, hi, hj, hset, capV, slSl, w1, w2, c1, c3, c4, hro]
theorem try_no {h : H} {i j m n N : Nat} {lr : Int} {D : List UInt8} (hi : h.get i = some (bufC j m lr)) (hj : h.get j = some (bufR N D)) (hN : N ≤ maxLen) (hn : ¬ m + n ≤ N) (hm : m ≤ N) (hs : m + n ≤ 1000000000) :
    callω fns 20 [.ptr (.obj i) 0, .int .i64 n] h = some (.tup [.int .i64 0, .bool false], h) := by
  unfold bufC bufR at *
  have hset := H.set_get hi
  have w1 : IntKind.i64.wrap ((N : Int) - m) = N - m := by unfold maxLen at hN; exact wrap_i64 (by omega) (by omega)
  have c1 : ¬ (n : Int) ≤ N - m := by omega
  refine run20 (Nat.le_of_ble_eq_true rfl) ?_
  simp [nnV, hi, hj, hset, capV, w1, c1]
theorem try_nil {h : H} {i n : Nat} {lr : Int} (hi : h.get i = some (bufN lr)) (hn : 1 ≤ n) (hs : n ≤ 1000000000) :
    callω fns 20 [.ptr (.obj i) 0, .int .i64 n] h = some (.tup [.int .i64 0, .bool false], h) := by
  unfold bufN at *
  have hset := H.set_get hi
  have c1 : ¬ (n : Int) ≤ 0 := by omega
  have c2 : ¬ n = 0 := by omega
  refine run20 (Nat.le_of_ble_eq_true rfl) ?_
  simp [nnV, hi, hset, capV, c1, c2, w00]
theorem len_C {h : H} {i j m : Nat} {lr : Int} (hi : h.get i = some (bufC j m lr)) (hs : m ≤ 1000000000) : callω fns 23 [.ptr (.obj i) 0] h = some (.int .i64 m, h) := by
  unfold bufC at *
  have hset := H.set_get hi
  have w1 : IntKind.i64.wrap (m : Int) = m := wrap_i64 (by omega) (by omega)
  refine run23 (Nat.le_of_ble_eq_true rfl) ?_
  simp [nnV, hi, hset, w1]
theorem len_N {h : H} {i : Nat} {lr : Int} (hi : h.get i = some (bufN lr)) : callω fns 23 [.ptr (.obj i) 0] h = some (.int .i64 0, h) := by
  unfold bufN at *
  have hset := H.set_get hi
  refine run23 (Nat.le_of_ble_eq_true rfl) ?_
  simp [nnV, hi, hset, w00]
theorem grow_nil {h : H} {i n : Nat} {lr : Int} (hi : h.get i = some (bufN lr)) (hn : 1 ≤ n) (hs : n ≤ 64) :
    callω fns 21 [.ptr (.obj i) 0, .int .i64 n] h = some (.int .i64 0, (h.push (bufR 64 z64)).set i (bufC h.n n lr)) := by
  have hl := len_N hi
  have ht := try_nil hi hn (by omega)
  have hset := H.set_get hi
  unfold bufN bufC bufR at *
  have hlt := H.lt_of_get hi
  have hp : (h.push (.row 5 1 (some 64) (byteCells z64))).get i = some (.cells [.slice .nil 0 1 [], .int .i64 0, .int .i8 lr]) := by rw [H.get_push_ne _ _ (by omega)]; exact hi
  have c1 : (n : Int) ≤ 64 := by omega
  have c2 : (1 : Int) ≤ n := by omega
  refine run21 (Nat.le_of_ble_eq_true rfl) ?_
  have hg := H.get_set_same hp
  simp [nnV, hi, hset, hl, ht, c1, pkV, ex2_0, ex2_1, mkV, mkN, tooLong, rep64, hp, hg, w00]
theorem take_cells (D : List UInt8) (m : Nat) : (byteCells D).take m = byteCells (D.take m) := by simp [byteCells, List.map_take]
theorem c_growSlice {h : H} {j m n N : Nat} {D : List UInt8} (hj : h.get j = some (bufR N D)) (hD : m ≤ D.length) (hN : N ≤ 140737488355328) (h1 : 1 ≤ n) (hs : m + n ≤ 1000000) :
    CW fns 25 [.hsl j 0 5 1 m, .int .i64 n] h fun q => ∃ N', m + n ≤ N' ∧ N' ≤ maxLen ∧ q = (.hsl h.n 0 5 1 m, h.push (bufR N' (D.take m))) := by
  unfold bufR at *
  have e1 : (1 : Int) ≤ n := by omega
  have e2 : (m : Int) + n ≤ 140737488355328 := by omega
  have e3 : m ≤ (byteCells D).length := by simp [byteCells]; exact hD
  refine CW_x fns (af := af25) rfl (Nat.le_of_ble_eq_true rfl) (t := .pick (maxLen - (m + n)) fun d => .ret (.hsl h.n 0 5 1 m, h.push (.row 5 1 (some (m + n + d)) (byteCells (D.take m))))) ?_ ?_
  · show growX [.hsl j 0 5 1 m, .int .i64 n] h = _
    simp only [growX, hj, e1, e2, e3, hN, and_self, if_true, Int.toNat_natCast, take_cells]
  · intro d hd
    exact ⟨m + n + d, by omega, by unfold maxLen at *; omega, rfl⟩
theorem grow_row {h : H} {i j m n N : Nat} {lr : Int} {D : List UInt8} (hi : h.get i = some (bufC j m lr)) (hj : h.get j = some (bufR N D)) (hN : N ≤ maxLen) (hm : m ≤ N) (hD : m ≤ D.length) (hn : ¬ m + n ≤ N) (h1 : 1 ≤ n) (h2 : 1 ≤ m) (hs : m + n ≤ 1000000) :
    CW fns 21 [.ptr (.obj i) 0, .int .i64 n] h fun q => q.1 = .int .i64 m ∧ ∃ N', m + n ≤ N' ∧ N' ≤ maxLen ∧ q.2 = (h.push (bufR N' (D.take m))).set i (bufC h.n (m + n) lr) := by
  have hl := len_C hi (by omega)
  have ht := try_no hi hj hN hn hm (by omega)
  have hgr := c_growSlice (n := n) hj hD (by omega) h1 hs
  have hset := H.set_get hi
  unfold bufC bufR at *
  have hlt := H.lt_of_get hi
  refine runs21 (Nat.le_of_ble_eq_true rfl) ?_
  unfold maxLen at hN
  have m0 : ¬ m = 0 := by omega
  have d2 : (N : Int).tdiv 2 = N / 2 := Int.tdiv_eq_ediv_of_nonneg (by omega)
  have w1 : IntKind.i64.wrap ((N : Int) / 2) = N / 2 := wrap_i64 (by omega) (by omega)
  have w2 : IntKind.i64.wrap ((N : Int) / 2 - m) = N / 2 - m := wrap_i64 (by omega) (by omega)
  have c1 : ¬ (n : Int) ≤ N / 2 - m := by omega
  have w3 : IntKind.i64.wrap (9223372036854775807 - (N : Int)) = 9223372036854775807 - N := wrap_i64 (by omega) (by omega)
  have w4 : IntKind.i64.wrap (9223372036854775807 - (N : Int) - n) = 9223372036854775807 - N - n := wrap_i64 (by omega) (by omega)
  have c2 : ¬ 9223372036854775807 - (N : Int) - n < N := by omega
  have w5 : IntKind.i64.wrap (n : Int) = n := wrap_i64 (by omega) (by omega)
  simp [nnV, hi, hj, hset, hl, ht, pkV, ex2_0, ex2_1, capV, w00, m0, d2, w1, w2, c1, w3, w4, c2, w5, slSl]
  refine gH_use hgr (fun v h' hq => ?_)
  obtain ⟨N', a1, a2, e⟩ := hq
  injection e with e1 e2
  subst e1; subst e2
  have hp : (h.push (bufR N' (D.take m))).get i = some (.cells [.hsl j 0 5 1 m, .int .i64 0, .int .i8 lr]) := by rw [H.get_push_ne _ _ (by omega)]; exact hi
  have hq : (h.push (bufR N' (D.take m))).get h.n = some (bufR N' (D.take m)) := by rw [H.get_push, if_pos rfl]
  have hne : h.n ≠ i := by omega
  unfold bufR at *
  have hg := H.get_set_same hp
  have hg2 := H.get_set_ne (h := h.push (.row 5 1 (some N') (byteCells (D.take m)))) (i := i) (j := h.n)
  have c3 : (0 : Int) ≤ (m : Int) + n := by omega
  have w6 : IntKind.i64.wrap ((m : Int) + n) = m + n := wrap_i64 (by omega) (by omega)
  have c4 : ((m : Int) + n).toNat = m + n := by omega
  simp [nnV, hp, hq, hg, hg2, hne, pkV, ex2_0, ex2_1, capV, w00, slSl, w6, c3, c4, roomTo, a1, a2]
  exact ⟨N', a1, a2, rfl⟩
def BufAt (h : H) (i : Nat) (l : List UInt8) : Prop :=
  (∃ lr, l = [] ∧ h.get i = some (bufN lr)) ∨
  ∃ (lr : Int) (j N : Nat) (D : List UInt8), 1 ≤ l.length ∧ i ≠ j ∧ h.get i = some (bufC j l.length lr) ∧ h.get j = some (bufR N D) ∧ l.length ≤ D.length ∧ l.length ≤ N ∧ N ≤ maxLen ∧ D.take l.length = l
theorem setL_take {D l ys : List UInt8} (h : D.take l.length = l) (hl : l.length ≤ D.length) : (setL D l.length ys).take (l ++ ys).length = l ++ ys := by
  unfold setL
  rw [h, List.take_append_of_le_length (by simp), List.take_of_length_le (by simp)]
theorem setL_le {D l ys : List UInt8} (hl : l.length ≤ D.length) : (l ++ ys).length ≤ (setL D l.length ys).length := by
  unfold setL; simp; omega
theorem st_byte {N m : Nat} {D : List UInt8} {c : UInt8} (hm : m ≤ D.length) (hN : m + 1 ≤ N) : stO 1 m (.int .u8 (c.toNat : Int)) (bufR N D) = some (bufR N (setL D m [c])) := by
  unfold bufR
  rw [stO_r, show (AV.int .u8 (c.toNat : Int)).cells = byteCells [c] from rfl, splice_bytes D m [c] _ rfl]
  simp [AV.plain, AV.isOwn, AV.cells]
  intro _; exact ⟨hm, by omega, hN⟩
theorem c_WriteByte {h : H} {i : Nat} {l : List UInt8} {c : UInt8} (hB : BufAt h i l) (hs : l.length ≤ 100000) :
    CW fns 17 [.ptr (.obj i) 0, .int .u8 (c.toNat : Int)] h fun q => q.1 = .nilI ∧ BufAt q.2 i (l ++ [c]) ∧ q.2.Γ = h.Γ := by
  refine runs17 (Nat.le_of_ble_eq_true rfl) ?_
  rcases hB with ⟨lr, rfl, hi⟩ | ⟨lr, j, N, D, hl1, hij, hi, hj, hD, hlN, hN, ht⟩
  · have hi0 : (h.set i (bufN 0)).get i = some (bufN 0) := H.get_set_same hi _
    have h1 : callω fns 20 [.ptr (.obj i) 0, .int .i64 1] (h.set i (bufN 0)) = some (.tup [.int .i64 0, .bool false], h.set i (bufN 0)) := try_nil (n := 1) hi0 (by omega) (by omega)
    have h2 : callω fns 21 [.ptr (.obj i) 0, .int .i64 1] (h.set i (bufN 0)) = some (.int .i64 0, ((h.set i (bufN 0)).push (bufR 64 z64)).set i (bufC (h.set i (bufN 0)).n 1 0)) := grow_nil (n := 1) hi0 (by omega) (by omega)
    rw [H.n_set] at h2
    have hlt := H.lt_of_get hi
    have hne : h.n ≠ i := by omega
    have hp : ((h.set i (bufN 0)).push (bufR 64 z64)).get i = some (bufN 0) := by rw [H.get_push_ne _ _ (by rw [H.n_set]; omega)]; exact hi0
    have hq : ((h.set i (bufN 0)).push (bufR 64 z64)).get h.n = some (bufR 64 z64) := by rw [H.get_push, if_pos (by rw [H.n_set])]
    have hg := H.get_set_same hp
    have hg2 := (H.get_set_ne (h := (h.set i (bufN 0)).push (bufR 64 z64)) (i := i) (j := h.n) · hne)
    have hs := st_byte (c := c) (m := 0) (N := 64) (D := z64) (by omega) (by omega)
    have hΓ : (((h.set i (bufN 0)).push (bufR 64 z64)).Γ) = h.Γ := by simp
    generalize hK : (h.set i (bufN 0)).push (bufR 64 z64) = K at *
    unfold bufN bufC at *
    simp [nnV, hi, h1, h2, ex2_0, ex2_1, hg, ixV, hg2, hq, hs]
    refine ⟨.inr ⟨0, h.n, 64, setL z64 0 [c], by simp, by omega, ?_, ?_, ?_, by simp, by simp [maxLen], ?_⟩, hΓ⟩
    · unfold bufC
      rw [H.get_set_ne _ _ (Ne.symm hne), hg]; rfl
    · exact H.get_set_same (by rw [hg2]; exact hq) _
    · exact setL_le (l := []) (D := z64) (by simp)
    · exact setL_take (l := []) (D := z64) rfl (by simp)
  · have hi0 : (h.set i (bufC j l.length 0)).get i = some (bufC j l.length 0) := H.get_set_same hi _
    have hj0 : (h.set i (bufC j l.length 0)).get j = some (bufR N D) := by rw [H.get_set_ne _ _ (Ne.symm hij)]; exact hj
    by_cases hr : l.length + 1 ≤ N
    · have h1 : callω fns 20 [.ptr (.obj i) 0, .int .i64 1] (h.set i (bufC j l.length 0)) = some (.tup [.int .i64 l.length, .bool true], (h.set i (bufC j l.length 0)).set i (bufC j (l.length + 1) 0)) := try_yes (n := 1) hi0 hj0 hN hr (by omega)
      rw [H.set_set] at h1
      have hg := H.get_set_same hi
      have hg2 := (H.get_set_ne h · (Ne.symm hij))
      have hs := st_byte (c := c) hD hr
      have c1 : (l.length : Int) < l.length + 1 := by omega
      have c2 : (0 : Int) ≤ l.length := by omega
      unfold bufC at *
      simp [nnV, hi, h1, ex2_0, ex2_1, hg, ixV, hg2, hj, hs, c1, c2]
      refine .inr ⟨0, j, N, setL D l.length [c], by simp, hij, ?_, ?_, setL_le hD, by simp; omega, hN, setL_take ht hD⟩
      · unfold bufC
        rw [H.get_set_ne _ _ hij, hg]; simp
      · exact H.get_set_same (by rw [hg2]; exact hj) _
    · have h1 : callω fns 20 [.ptr (.obj i) 0, .int .i64 1] (h.set i (bufC j l.length 0)) = some (.tup [.int .i64 0, .bool false], h.set i (bufC j l.length 0)) := try_no (n := 1) hi0 hj0 hN hr hlN (by omega)
      have h2 : CW fns 21 [.ptr (.obj i) 0, .int .i64 1] (h.set i (bufC j l.length 0)) _ := grow_row (n := 1) hi0 hj0 hN hlN hD hr (by omega) (by omega) (by omega)
      have hg := H.get_set_same hi
      unfold bufC at *
      simp [nnV, hi, h1, ex2_0, ex2_1, hg]
      refine gH_use h2 (fun v h' hq => ?_)
      obtain ⟨e1, N', a1, a2, e2⟩ := hq
      simp only at e1 e2
      subst e1; subst e2
      have hlt := H.lt_of_get hi
      have hne : h.n ≠ i := by omega
      rw [H.n_set]
      have hp : ((h.set i (bufC j l.length 0)).push (bufR N' (D.take l.length))).get i = some (bufC j l.length 0) := by rw [H.get_push_ne _ _ (by rw [H.n_set]; omega)]; exact hi0
      have hq : ((h.set i (bufC j l.length 0)).push (bufR N' (D.take l.length))).get h.n = some (bufR N' (D.take l.length)) := by rw [H.get_push, if_pos (by rw [H.n_set])]
      have hg := H.get_set_same hp
      have hg2 := (H.get_set_ne ((h.set i (bufC j l.length 0)).push (bufR N' (D.take l.length))) · hne)
      have hDl : (D.take l.length).length = l.length := by rw [ht]
      have hs := st_byte (c := c) (m := l.length) (N := N') (D := D.take l.length) (by omega) a1
      have hΓ : (((h.set i (bufC j l.length 0)).push (bufR N' (D.take l.length))).Γ) = h.Γ := by simp
      have c1 : (l.length : Int) < l.length + 1 := by omega
      have c2 : (0 : Int) ≤ l.length := by omega
      unfold bufC at *
      generalize hK : (h.set i (.cells [.hsl j 0 5 1 l.length, .int .i64 0, .int .i8 0])).push (bufR N' (D.take l.length)) = K at *
      simp [nnV, hg, ixV, hg2, hq, hs, c1, c2]
      refine ⟨.inr ⟨0, h.n, N', setL (D.take l.length) l.length [c], by simp, by omega, ?_, ?_, setL_le (by omega), by simp; omega, a2, setL_take (by rw [List.take_take, Nat.min_self]; exact ht) (by omega)⟩, hΓ⟩
      · unfold bufC
        rw [H.get_set_ne _ _ (Ne.symm hne), hg]; simp
      · exact H.get_set_same (by rw [hg2]; exact hq) _
theorem cp_bytes {st : St} {j m n N : Nat} {D s : List UInt8} (hj : st.h.get j = some (bufR N D)) (hm : m ≤ D.length) (hn : s.length = n) :
    cpRow 1 true (.hsl j m 5 1 n) (.str s) st = some (.int .i64 (n : Int), ⟨st.s, st.b, st.h.set j (bufR N (setL D m s))⟩) := by
  subst hn
  unfold bufR at *
  have h1 : m ≤ (byteCells D).length := by simp [byteCells]; exact hm
  have h2 : (byteCells s).length = s.length := by simp [byteCells]
  have h3 : splice (byteCells D) m ((byteCells s).take s.length) = byteCells (setL D m s) := by
    rw [List.take_of_length_le (by omega)]; exact splice_bytes D m s _ rfl
  simp [cpRow, moreV, hj, h1, h2, h3, -splice, Nat.mod_one]
  intro _; exact hm
theorem c_WriteString {h : H} {i : Nat} {l s : List UInt8} (hB : BufAt h i l) (hl : 1 ≤ l.length) (hs1 : 1 ≤ s.length) (hs : l.length ≤ 100000) (hs2 : s.length ≤ 100000) :
    CW fns 18 [.ptr (.obj i) 0, .str s] h fun q => q.1 = .tup [.int .i64 s.length, .nilI] ∧ BufAt q.2 i (l ++ s) ∧ q.2.Γ = h.Γ := by
  refine runs18 (Nat.le_of_ble_eq_true rfl) ?_
  rcases hB with ⟨lr, rfl, hi⟩ | ⟨lr, j, N, D, hl1, hij, hi, hj, hD, hlN, hN, ht⟩
  · simp at hl
  · have hi0 : (h.set i (bufC j l.length 0)).get i = some (bufC j l.length 0) := H.get_set_same hi _
    have hj0 : (h.set i (bufC j l.length 0)).get j = some (bufR N D) := by rw [H.get_set_ne _ _ (Ne.symm hij)]; exact hj
    have c1 : ((l.length : Int) + s.length - l.length) = s.length := by omega
    have c2 : (0 : Int) ≤ l.length := by omega
    have c3 : l.length + s.length - l.length = s.length := by omega
    have c4 : (l.length : Int) ≤ l.length + s.length := by omega
    by_cases hr : l.length + s.length ≤ N
    · have h1 := try_yes (n := s.length) hi0 hj0 hN hr (by omega)
      rw [H.set_set] at h1
      have hg := H.get_set_same hi
      have hg2 := (H.get_set_ne h · (Ne.symm hij))
      have hc : ∀ (s0 : Nat → AV) (b0 : Nat → Option Obj), cpRow 1 true (.hsl j l.length 5 1 s.length) (.str s) ⟨s0, b0, h.set i (bufC j (l.length + s.length) 0)⟩ = some (.int .i64 (s.length : Int), ⟨s0, b0, (h.set i (bufC j (l.length + s.length) 0)).set j (bufR N (setL D l.length s))⟩) := fun s0 b0 => cp_bytes (st := ⟨s0, b0, h.set i (bufC j (l.length + s.length) 0)⟩) (by rw [← hj]; exact hg2 _) hD rfl
      have c5 : ((l.length : Int) + s.length).toNat - l.length = s.length := by omega
      unfold bufC at *
      simp [nnV, hi, h1, ex2_0, ex2_1, hg, hg2, hj, slSl, c1, c2, c3, c4, c5, hc]
      refine .inr ⟨0, j, N, setL D l.length s, by simp; omega, hij, ?_, ?_, setL_le hD, by simp; omega, hN, setL_take ht hD⟩
      · unfold bufC
        rw [H.get_set_ne _ _ hij, hg]; simp
      · exact H.get_set_same (by rw [hg2]; exact hj) _
    · have h1 := try_no (n := s.length) hi0 hj0 hN hr hlN (by omega)
      have h2 := grow_row (n := s.length) hi0 hj0 hN hlN hD hr (by omega) (by omega) (by omega)
      have hg := H.get_set_same hi
      unfold bufC at *
      simp [nnV, hi, h1, ex2_0, ex2_1, hg]
      refine gH_use h2 (fun v h' hq => ?_)
      obtain ⟨e1, N', a1, a2, e2⟩ := hq
      simp only at e1 e2
      subst e1; subst e2
      have hlt := H.lt_of_get hi
      have hne : h.n ≠ i := by omega
      rw [H.n_set]
      have hp : ((h.set i (bufC j l.length 0)).push (bufR N' (D.take l.length))).get i = some (bufC j l.length 0) := by rw [H.get_push_ne _ _ (by rw [H.n_set]; omega)]; exact hi0
      have hq : ((h.set i (bufC j l.length 0)).push (bufR N' (D.take l.length))).get h.n = some (bufR N' (D.take l.length)) := by rw [H.get_push, if_pos (by rw [H.n_set])]
      have hg := H.get_set_same hp
      have hg2 := (H.get_set_ne ((h.set i (bufC j l.length 0)).push (bufR N' (D.take l.length))) · hne)
      have hDl : (D.take l.length).length = l.length := by rw [ht]
      have hΓ : (((h.set i (bufC j l.length 0)).push (bufR N' (D.take l.length))).Γ) = h.Γ := by simp
      have c5 : ((l.length : Int) + s.length).toNat - l.length = s.length := by omega
      unfold bufC at *
      generalize hK : (h.set i (.cells [.hsl j 0 5 1 l.length, .int .i64 0, .int .i8 0])).push (bufR N' (D.take l.length)) = K at *
      have hc : ∀ (s0 : Nat → AV) (b0 : Nat → Option Obj), cpRow 1 true (.hsl h.n l.length 5 1 s.length) (.str s) ⟨s0, b0, K.set i (.cells [.hsl h.n 0 5 1 (l.length + s.length), .int .i64 0, .int .i8 0])⟩ = some (.int .i64 (s.length : Int), ⟨s0, b0, (K.set i (.cells [.hsl h.n 0 5 1 (l.length + s.length), .int .i64 0, .int .i8 0])).set h.n (bufR N' (setL (D.take l.length) l.length s))⟩) := fun s0 b0 => cp_bytes (st := ⟨s0, b0, K.set i (.cells [.hsl h.n 0 5 1 (l.length + s.length), .int .i64 0, .int .i8 0])⟩) (by rw [← hq]; exact hg2 _) (by omega) rfl
      simp [nnV, hg, slSl, c1, c2, c3, c4, c5, hc]
      refine ⟨.inr ⟨0, h.n, N', setL (D.take l.length) l.length s, by simp; omega, by omega, ?_, ?_, setL_le (by omega), by simp; omega, a2, setL_take (by rw [List.take_take, Nat.min_self]; exact ht) (by omega)⟩, hΓ⟩
      · unfold bufC
        rw [H.get_set_ne _ _ (Ne.symm hne), hg]; simp
      · exact H.get_set_same (by rw [hg2]; exact hq) _
theorem c_BufString {h : H} {i : Nat} {l : List UInt8} (hB : BufAt h i l) (hl : 1 ≤ l.length) (hs : l.length ≤ 10000000) : callω fns 15 [.ptr (.obj i) 0] h = some (.str l, h) := by
  rcases hB with ⟨lr, rfl, hi⟩ | ⟨lr, j, N, D, hl1, hij, hi, hj, hD, hlN, hN, ht⟩
  · simp at hl
  · have hset := H.set_get hi
    have hb := bytesOf_cells l
    have h3 : (byteCells D).take l.length = byteCells l := by rw [take_cells, ht]
    have h4 : (byteCells D).length = D.length := by simp [byteCells]
    unfold bufC bufR at *
    have c2 : (0 : Int) ≤ l.length := by omega
    refine run15 (Nat.le_of_ble_eq_true rfl) ?_
    simp [nnV, hi, hset, slSl, cvBS, hcells, hj, hD, h3, h4, hb, c2]
end Go.Proofs.YtpinoabhaaemfaaDoor.Abs
