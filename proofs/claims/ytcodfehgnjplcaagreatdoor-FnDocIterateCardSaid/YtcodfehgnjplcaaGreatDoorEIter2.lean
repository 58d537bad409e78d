/- An iterator over the bytes of a right array: its values as documents; the script. -/
import Derived.Test.YtcodfehgnjplcaaGreatDoorEIter
import Derived.Test.YtcodfehgnjplcaaGreatDoorEB5
namespace Go.Proofs.YtcodfehgnjplcaaGreatDoor.Abs
set_option linter.all false
open Go.Proofs
set_option linter.unusedVariables false
set_option linter.unusedSimpArgs false
set_option maxRecDepth 100000
set_option maxHeartbeats 8000000

theorem c_New (m : List UInt8) (hE : H) : callω fns 173 [.str m] hE = some (.iface 298 (.ptr (.obj hE.n) 0), hE.push (.cells [.str m])) := by
  refine run173 (Nat.le_of_ble_eq_true rfl) ?_
  simp [mkI]
theorem c_IsO {i : Nat} {b : Nat × Nat} {hE : H} {cs : List AV} (hg : hE.get i = some (.cells cs)) : callω fns 165 [.iface 298 (.ptr (.obj i) 0), sE b] hE = some (.bool false, hE) := by
  refine callω_x fns (af := af165) rfl (Nat.le_of_ble_eq_true rfl) ?_
  show isX [.iface 298 (.ptr (.obj i) 0), sE b] hE = _
  simp [isX, sE, hg]
theorem c_code_new {s : Nat → Nat × Nat} {i : Nat} {hE : H} {cs : List AV} (hg : hE.get i = some (.cells cs)) (hS : Sens hE.Γ s) : callω fns 65 [.iface 298 (.ptr (.obj i) 0)] hE = some (.int .i64 9, hE) := by
  obtain ⟨g0, g1, g2, g3, ne⟩ := hS
  have hI := fun b => c_IsO (b := b) hg
  simp only [sE] at hI g0 g1 g2 g3
  refine run65 (Nat.le_of_ble_eq_true rfl) ?_
  simp [taOk, exV, g0, g1, g2, g3, glV, hI]
def Ks.vals : Ks → List (List UInt8)
  | .nil => []
  | .cons _ v r => v.val :: r.vals
def Ks.docs : Ks → Bool
  | .nil => true
  | .cons _ v r => decide (v.kind = 3) && r.docs
theorem Ks.vals_length : ∀ K : Ks, K.vals.length = K.len
  | .nil => rfl
  | .cons _ v r => by simp [Ks.vals, Ks.len, Ks.vals_length r]
def msgD : List UInt8 := [105, 110, 118, 97, 108, 105, 100, 32, 68, 111, 99, 117, 109, 101, 110, 116, 83, 101, 113, 117, 101, 110, 99, 101, 58, 32, 97, 32, 110, 111, 110, 45, 100, 111, 99, 117, 109, 101, 110, 116, 32, 118, 97, 108, 117, 101, 32, 119, 97, 115, 32, 102, 111, 117, 110, 100, 32, 105, 110, 32, 115, 101, 113, 117, 101, 110, 99, 101]
theorem RS.fv_at2' {e : Nat} {b : RS} {k m : Nat} {pre r : List AV} (h : b.l = pre ++ r) (hp : pre.length = k * 2) (hm : b.l.length = m * 2) (hk : k < m) : ixV 2 (b.fv e 2) (.int .i64 (k : Int)) = some (.eptr r) := by
  rw [RS.fv_ix (by omega) hm hk, h, ← hp, List.drop_left]
theorem l_Documents {K : Ks} (hKl : K.len ≤ 100000) : ∀ (r pre : Ks) (L acc : RS) (st : St), K = pre.app r → r.good → r.sz ≤ 90000 → st.s 33 = L.fv 102 2 → L.l = valsC 5 K.elems → st.s 34 = .int .i64 K.len → st.s 35 = .int .i64 pre.len → st.s 6 = acc.av 134 1 → acc.l.length ≤ pre.len →
    ∀ Q : Ex × St → Prop, (r.docs = true → ∀ st' : St, st'.h = st.h → st'.s 6 = (acc.app (rowsC 5 r.vals)).av 134 1 → Q (.exit 0, st')) →
      (r.docs = false → ∀ st' : St, st'.h = st.h.push (.cells [.str msgD]) → st'.s 2 = .slice .nil 0 1 [] → st'.s 3 = .iface 298 (.ptr (.obj st.h.n) 0) → Q (.ret, st')) → LoopR fns lc89_0 st Q
  | .nil, pre, L, acc, st, hK, hg, hs, h33, hL, h34, h35, h6, ha, Q, hA, hB => by
    refine loopω_run fns ?_
    have hlen : K.len = pre.len := by rw [hK, Ks.len_app]; simp [Ks.len]
    simp [h34, h35, hlen]
    refine hA rfl _ ?_ ?_ <;> simp [h6, Ks.vals, RS.app_nil]
  | .cons nm v r, pre, L, acc, st, hK, hg, hs, h33, hL, h34, h35, h6, ha, Q, hA, hB => by
    refine loopω_run fns ?_
    obtain ⟨hp, ⟨dd, hR⟩, hG⟩ := hg
    rw [Ks.sz_cons] at hs
    have hlenK : K.len = pre.len + (r.len + 1) := by rw [hK, Ks.len_app]; simp [Ks.len]
    have hlt : (pre.len : Int) < pre.len + (r.len + 1) := by omega
    have hx := RS.fv_at2' (e := 102) (b := L) (k := pre.len) (m := K.len) (pre := valsC 5 pre.elems) (r := valsC 5 (elemL nm v :: r.elems)) (by rw [hL, hK, Ks.elems_app, valsC_append]; rfl) (by simp) (by rw [hL]; simp) (by omega)
    rw [valsC_cons, kv_elem hp hR] at hx
    have hw : IntKind.i64.wrap ((pre.len : Int) + 1) = pre.len + 1 := wrap_i64 (by omega) (by omega)
    have hN := c_New msgD
    have hap : ∀ hp : H, apV hp 134 1 24 false (acc.av 134 1) (.slice (.own true) 134 1 [bAV 5 (some v.val)]) = some ((acc.app [bAV 5 (some v.val)]).av 134 1) := fun hp =>
      RS.apV (by simp only [List.length_singleton, Nat.div_one, tooLong]; omega) (by simp only [List.length_singleton, tooLong]; omega)
    have hdk : (Ks.cons nm v r).docs = (decide (v.kind = 3) && r.docs) := rfl
    have hvl : (Ks.cons nm v r).vals = v.val :: r.vals := rfl
    rw [hdk] at hA hB
    rw [hvl] at hA
    simp only [msgD] at hN
    generalize v.val = VV at *
    by_cases h3 : v.kind = 3
    · simp only [h3, decide_true, Bool.true_and] at hA hB
      rw [h3] at hx
      simp [h33, h34, h35, h6, hlenK, hlt, hx, hw, hap]
      refine l_Documents hKl r (pre.app (.cons nm v .nil)) L (acc.app [bAV 5 (some VV)]) _ ?_ hG (by omega) ?_ hL ?_ ?_ ?_ ?_ Q (fun hd st' k1 k2 => hA hd st' ?_ ?_) (fun hd st' k1 k2 k3 => hB hd st' ?_ k2 ?_)
      · rw [hK, Ks.app_assoc]; rfl
      · simp [h33]
      · simp [h34, hlenK]
      · rw [Ks.len_app]; simp [Ks.len]
      · simp
      · rw [RS.l_app, Ks.len_app]; simp [Ks.len]; omega
      · rw [k1]
      · rw [k2, RS.app_app]; rfl
      · rw [k1]
      · exact k3
    · simp only [h3, decide_false, Bool.false_and] at hB
      have h3' : ¬ v.kind = 3 := h3
      generalize v.kind = VK at *
      simp [h33, h34, h35, h6, hlenK, hlt, hx, hw, h3', hN]
      refine hB trivial _ ?_ ?_ ?_ <;> simp [msgD]
theorem c_Documents {K : Ks} (hs : K.sz ≤ 90000) (hg : K.good) (h : H) (p : Int) (os : List Obj) : callω fns 89 [.ptr (.obj h.n) 0] (h.app (iO K.doc p :: os)) =
    some (if K.docs then (.tup [(RS.own true (rowsC 5 K.vals)).av 134 1, .nilI], h.app (iO K.doc p :: os)) else (.tup [.slice .nil 0 1 [], .iface 298 (.ptr (.obj (h.n + (os.length + 1))) 0)], h.app (iO K.doc p :: (os ++ [.cells [.str msgD]])))) := by
  obtain ⟨n1, n2⟩ := doc_num K (by omega)
  have hlen := Ks.doc_length K
  have hb := Ks.body_le K
  have hsz : K.sz = K.nb + 18 * K.nodes := rfl
  have hk : okL K.doc = true := by unfold okL; rw [n1, hlen]; simp; omega
  obtain ⟨e1, e2, e3⟩ := elemsR_body K (K.doc.length + 1) [0] hg (by omega) (by omega) (by simp)
  have hn : num32 K.doc - 4 = ((K.body.length + [(0 : UInt8)].length : Nat) : Int) := by rw [n1]; simp; omega
  have hdR : dR K.doc = (K.elems, true) := by unfold dR; rw [hn, n2]; exact e1
  have hv := c_values K.doc (by omega)
  rw [hk, hdR] at hv
  simp only [if_true] at hv
  have hL : (RS.mk (valsC 5 K.elems)).l = valsC 5 K.elems := RS.l_mk _
  have hKe := Ks.elems_length K
  have hn1 : aLen false ((RS.mk (valsC 5 K.elems)).lv 102 2) = some (.int .i64 K.len) := RS.lv_len (by omega) (by rw [hL]; simp)
  have hn2 : aLen false ((RS.mk (valsC 5 K.elems)).fv 102 2) = some (.int .i64 K.len) := RS.fv_len (by omega) (by rw [hL]; simp)
  have hn3 : aLen false ((RS.mk (valsC 5 K.elems)).av 102 2) = some (.int .i64 K.len) := RS.av_len (by omega) (by rw [hL]; simp)
  have hll := Ks.len_le K
  generalize RS.mk (valsC 5 K.elems) = L at *
  have hD : ∀ hE : H, callω fns 73 [bAV 5 (some K.doc)] hE = some (.tup [L.av 102 2, .nilI], hE) := by
    intro hE
    refine run73 (Nat.le_of_ble_eq_true rfl) ?_
    simp [hv, ex2_0, ex2_1]
  have hmk : ∀ st : St, mkV false 134 1 24 [.slice .nil 0 1 []] (.int .i64 0) (.int .i64 K.len) st = some ((RS.own true []).av 134 1, st) := fun st => by
    simp only [mkV, mkN]
    rw [if_pos ⟨trivial, trivial, by omega, by omega, by simp only [tooLong]; omega, by simp only [tooLong]; omega⟩]
    simp [RS.av, repCells]
  have hd0 : ¬ K.doc = [] := fun e => by rw [e] at hlen; simp at hlen
  have hlen' : K.doc.length = K.body.length + 5 := hlen
  have hl := l_Documents (K := K) (by omega) K .nil L (.own true [])
  generalize hdd : K.docs = dd at *
  generalize K.doc = D at *
  refine run89 (Nat.le_of_ble_eq_true rfl) ?_
  simp [iO, nnV, bl, hd0, hD, hn1, hn2, hn3, hmk, ex2_0, ex2_1]
  refine hl _ rfl hg hs ?_ hL ?_ ?_ ?_ ?_ _ (fun hd st' k1 k2 => ?_) (fun hd st' k1 k2 k3 => ?_)
  · simp
  · simp
  · simp [Ks.len]
  · simp
  · simp [RS.l]
  · subst hd
    simp at k1
    have e : (RS.own true []).app (rowsC 5 K.vals) = .own true (rowsC 5 K.vals) := by simp [RS.app]
    rw [e] at k2
    simp [k1, k2, iO]
  · subst hd
    simp [H.app_push] at k1 k3
    simp [k1, k2, k3, iO]
end Go.Proofs.YtcodfehgnjplcaaGreatDoor.Abs
