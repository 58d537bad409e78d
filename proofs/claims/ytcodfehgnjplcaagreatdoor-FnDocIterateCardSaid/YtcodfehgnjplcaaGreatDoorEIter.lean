/- An iterator over the bytes of a right array: what each of its methods does. -/
import Derived.Test.YtcodfehgnjplcaaGreatDoorEArrA
import Derived.Test.YtcodfehgnjplcaaGreatDoorEB11
namespace Go.Proofs.YtcodfehgnjplcaaGreatDoor.Abs
set_option linter.all false
open Go.Proofs
set_option linter.unusedVariables false
set_option linter.unusedSimpArgs false
set_option maxRecDepth 100000
set_option maxHeartbeats 8000000

theorem Ks.body_app (a b : Ks) : (a.app b).body = a.body ++ b.body := by rw [Ks.body_flat, Ks.body_flat, Ks.body_flat, Ks.elems_app, List.flatten_append]
theorem Ks.app_nil' : ∀ a : Ks, a.app .nil = a
  | .nil => rfl
  | .cons nm v r => by simp only [Ks.app, Ks.app_nil' r]
theorem doc_drop {pre r : Ks} (hs : (pre.app r).sz ≤ 90000) : (pre.app r).doc.drop (4 + pre.body.length) = r.body ++ [0] := by
  obtain ⟨n1, n2⟩ := doc_num (pre.app r) (by omega)
  rw [← List.drop_drop, n2, Ks.body_app, List.append_assoc, List.drop_left]
def iO (D : List UInt8) (p : Int) : Obj := .cells [bAV 5 (some D), .int .i64 p]
theorem H.set_appL (h : H) (x y z : Obj) (os : List Obj) : (h.app (x :: (os ++ [y]))).set (h.n + (os.length + 1)) z = h.app (x :: (os ++ [z])) := by
  rw [H.set_app _ _ (by simp)]
  simp
@[simp] theorem noHeap_app (h : H) (x : Obj) (os : List Obj) (v : AV) : noHeap (h.n + (os.length + 1)) (v, (h.app (x :: os)).mask) = some v := by
  simp [noHeap, H.mask, H.n_app]
theorem c_Reset (h : H) (D : List UInt8) (p : Int) (os : List Obj) : callω fns 85 [.ptr (.obj h.n) 0] (h.app (iO D p :: os)) = some (.tup [], h.app (iO D 0 :: os)) := by
  refine run85 (Nat.le_of_ble_eq_true rfl) ?_
  simp [iO, nnV]
theorem c_Empty (h : H) (D : List UInt8) (p : Int) (os : List Obj) : callω fns 88 [.ptr (.obj h.n) 0] (h.app (iO D p :: os)) = some (.bool (decide (D.length ≤ 5)), h.app (iO D p :: os)) := by
  refine run88 (Nat.le_of_ble_eq_true rfl) ?_
  have e : decide ((D.length : Int) ≤ 5) = decide (D.length ≤ 5) := by rw [decide_eq_decide]; omega
  simp [iO, nnV, bl, e]
theorem l_Count : ∀ (r : Ks) (c : Nat) (st : St), st.s 4 = bAV 5 (some (r.body ++ [0])) → st.s 6 = .int .i64 c → c + r.len ≤ 100000 → r.good → r.sz ≤ 90000 → ∀ Q : Ex × St → Prop,
    (∀ st' : St, st'.h = st.h → st'.s 6 = .int .i64 (c + r.len : Nat) → Q (.exit 0, st')) → LoopR fns lc86_0 st Q
  | .nil, c, st, h4, h6, hc, hg, hs, Q, hA => by
    refine loopω_run fns ?_
    simp [h4, h6, Ks.body, bl]
    refine hA _ ?_ ?_ <;> simp [h6, Ks.len]
  | .cons nm v r, c, st, h4, h6, hc, hg, hs, Q, hA => by
    refine loopω_run fns ?_
    obtain ⟨hp, ⟨dd, hR⟩, hG⟩ := hg
    rw [Ks.sz_cons] at hs
    simp only [Ks.len] at hc hA
    have hvl := Tr.val_le v
    have hvs : v.sz = v.nb + 18 * v.nodes := rfl
    have hel := elemL_length nm v
    have hbl := Ks.body_le r
    have hrs : r.sz = r.nb + 18 * r.nodes := rfl
    have hB0 : (Ks.cons nm v r).body = elemL nm v ++ r.body := by simp [Ks.body, elemL, hdL]
    rw [hB0, List.append_assoc] at h4
    have hre := c_ReadElement (elemL nm v ++ (r.body ++ [0])) (by simp; omega)
    have he : eRes (elemL nm v ++ (r.body ++ [0])) = .tup [bAV 5 (some (elemL nm v)), bAV 5 (some (r.body ++ [0])), .bool true] := by
      simp only [eRes, eGet_elem hp hR (by omega) (r.body ++ [0]), List.take_left, List.drop_left]
    rw [he] at hre
    have hlen : (elemL nm v ++ (r.body ++ [0])).length = (elemL nm v).length + r.body.length + 1 := by simp; omega
    have hg1 : (1 : Int) < ((elemL nm v).length + r.body.length + 1 : Nat) := by omega
    have hw : IntKind.i64.wrap ((c : Int) + 1) = c + 1 := wrap_i64 (by omega) (by omega)
    have hbs : ∀ x : List UInt8, bl (some x) = x := fun _ => rfl
    have hl4 : aLen false (bAV 5 (some (elemL nm v ++ (r.body ++ [0])))) = some (.int .i64 ((elemL nm v).length + r.body.length + 1 : Nat)) := by
      rw [← hlen]; simp [bl]
    generalize ((elemL nm v).length + r.body.length + 1 : Nat) = N at *
    generalize elemL nm v ++ (r.body ++ [0]) = X at *
    generalize elemL nm v = E at *
    simp [h4, h6, hl4, hg1, hre, hw, ex3_0, ex3_1, ex3_2]
    refine l_Count r (c + 1) _ ?_ ?_ (by omega) hG (by omega) Q (fun st' k1 k2 => hA st' ?_ ?_)
    · simp
    · simp
    · rw [k1]
    · rw [k2]; congr 1; omega
theorem c_Count {K : Ks} (hs : K.sz ≤ 90000) (hg : K.good) (h : H) (p : Int) (os : List Obj) : callω fns 86 [.ptr (.obj h.n) 0] (h.app (iO K.doc p :: os)) = some (.int .i64 K.len, h.app (iO K.doc p :: os)) := by
  obtain ⟨n1, n2⟩ := doc_num K (by omega)
  have hlen := Ks.doc_length K
  have hb := Ks.body_le K
  have hsz : K.sz = K.nb + 18 * K.nodes := rfl
  have hR := c_RLen (some K.doc)
  simp only [bl] at hR
  have hk : okL K.doc = true := by unfold okL; rw [n1, hlen]; simp; omega
  rw [n1, hk, rest4_some (by omega), n2] at hR
  have hn := Ks.len_le K
  have hnod : 18 * K.nodes ≤ K.sz := by omega
  generalize K.doc = D at *
  refine run86 (Nat.le_of_ble_eq_true rfl) ?_
  simp [iO, nnV, hR, ex3_0, ex3_1, ex3_2]
  refine l_Count K 0 _ ?_ ?_ (by omega) hg hs _ (fun st' k1 k2 => ?_)
  · simp
  · simp
  · simp at k1 k2
    simp [k1, k2]
theorem c_Next0 {K pre : Ks} (hK : K = pre.app .nil) (hs : K.sz ≤ 90000) {s : Nat → Nat × Nat} (h : H) (hS : Sens h.Γ s) (os : List Obj) (p : Int) (hp : p = 4 + pre.body.length ∨ (p = 0 ∧ pre = .nil)) :
    callω fns 84 [.ptr (.obj h.n) 0] (h.app (iO K.doc p :: os)) = some (.tup [.nilptr, sE (s 3)], h.app (iO K.doc (4 + pre.body.length) :: os)) := by
  have hlen := Ks.doc_length K
  have hb := Ks.body_le K
  have hsz : K.sz = K.nb + 18 * K.nodes := rfl
  have hd : K.doc.drop (4 + pre.body.length) = [0] := by subst hK; rw [doc_drop hs]; rfl
  have hbl : K.body.length = pre.body.length := by subst hK; rw [Ks.app_nil']
  have s1 : ∀ hp : H, slSl hp 1 (bAV 5 (some K.doc)) (some (4 + (pre.body.length : Int))) (some (K.doc.length : Int)) = some (bAV 5 (some [0])) := fun hp => by
    have := sl_from (hp := hp) (e := 5) (l := K.doc) (m := 4 + pre.body.length) (by omega)
    rw [hd] at this; simpa using this
  have hg3 := hS.g3
  have hix : ixV 1 (bAV 5 (some [0])) (.int .i64 0) = some (.eptr (.int .u8 0 :: byteCells [])) := ix_head
  have hbl0 : 0 < K.doc.length := by omega
  generalize K.doc = D at *
  refine run84 (Nat.le_of_ble_eq_true rfl) ?_
  simp only [sE] at hg3 ⊢
  rcases hp with rfl | ⟨rfl, rfl⟩
  · have g1 : ¬ ((D.length : Int) ≤ 4 + (pre.body.length : Int)) := by omega
    have g2 : ¬ (4 + (pre.body.length : Int) < 4) := by omega
    simp [iO, nnV, bl, g1, g2, s1, hix, hg3, glV]
  · have g1 : ¬ D = [] := fun e => by rw [e] at hbl0; simp at hbl0
    have g2 : ¬ ((D.length : Int) < 4) := by omega
    simp only [Ks.body, List.length_nil, Int.ofNat_zero, Int.add_zero] at s1 ⊢
    simp [iO, nnV, bl, g1, g2, s1, hix, hg3, glV]
theorem c_Next1 {K pre r : Ks} {nm : List UInt8} {v : Tr} {dd : Nat} (hK : K = pre.app (.cons nm v r)) (hs : K.sz ≤ 90000) (hpl : plainL nm = true) (hR : v.right dd = true) (hv : nm.length + v.sz ≤ 90000) (h : H) (os : List Obj) (p : Int) (hp : p = 4 + pre.body.length ∨ (p = 0 ∧ pre = .nil)) :
    callω fns 84 [.ptr (.obj h.n) 0] (h.app (iO K.doc p :: os)) = some (.tup [.ptr (.obj (h.n + (os.length + 1))) 0, .nilI], h.app (iO K.doc (4 + (pre.app (.cons nm v .nil)).body.length : Nat) :: (os ++ [.cells [.int .u8 v.kind, bAV 5 (some v.val)]]))) := by
  have hlen := Ks.doc_length K
  have hb := Ks.body_le K
  have hsz : K.sz = K.nb + 18 * K.nodes := rfl
  have hvl := Tr.val_le v
  have hvs : v.sz = v.nb + 18 * v.nodes := rfl
  have hel := elemL_length nm v
  have hd : K.doc.drop (4 + pre.body.length) = elemL nm v ++ (r.body ++ [0]) := by subst hK; rw [doc_drop hs]; simp [Ks.body, elemL, hdL]
  have hbl : K.body.length = pre.body.length + (elemL nm v).length + r.body.length := by
    subst hK; rw [Ks.body_app]; have : (Ks.cons nm v r).body = elemL nm v ++ r.body := by simp [Ks.body, elemL, hdL]
    rw [this]; simp; omega
  have hbl2 : (pre.app (.cons nm v .nil)).body.length = pre.body.length + (elemL nm v).length := by
    rw [Ks.body_app]; have : (Ks.cons nm v .nil).body = elemL nm v := by simp [Ks.body, elemL, hdL]
    rw [this]; simp
  have s1 : ∀ hp : H, slSl hp 1 (bAV 5 (some K.doc)) (some (4 + (pre.body.length : Int))) (some (K.doc.length : Int)) = some (bAV 5 (some (elemL nm v ++ (r.body ++ [0])))) := fun hp => by
    have := sl_from (hp := hp) (e := 5) (l := K.doc) (m := 4 + pre.body.length) (by omega)
    rw [hd] at this; simpa using this
  have hre := c_ReadElement (elemL nm v ++ (r.body ++ [0])) (by simp; omega)
  have he : eRes (elemL nm v ++ (r.body ++ [0])) = .tup [bAV 5 (some (elemL nm v)), bAV 5 (some (r.body ++ [0])), .bool true] := by
    simp only [eRes, eGet_elem hpl hR (by omega) (r.body ++ [0]), List.take_left, List.drop_left]
  rw [he] at hre
  have hlX : (elemL nm v ++ (r.body ++ [0])).length = (elemL nm v).length + r.body.length + 1 := by simp; omega
  have hl4 : aLen false (bAV 5 (some (elemL nm v ++ (r.body ++ [0])))) = some (.int .i64 ((elemL nm v).length + r.body.length + 1 : Nat)) := by
    rw [← hlX]; simp [bl]
  have hn1 : ¬ (((elemL nm v).length + r.body.length + 1 : Nat) : Int) = 1 := by omega
  obtain ⟨ev, ee⟩ := eVal_elem (v := v) hpl hR (by omega)
  have hev := c_ElemValue (elemL nm v) (by omega)
  rw [ev] at hev
  have hle : aLen false (bAV 5 (some (elemL nm v))) = some (.int .i64 (elemL nm v).length) := by simp [bl]
  rw [hbl2]
  generalize (elemL nm v).length + r.body.length + 1 = N at *
  generalize elemL nm v ++ (r.body ++ [0]) = X at *
  generalize elemL nm v = E at *
  generalize v.kind = VK at *
  generalize v.val = VV at *
  have hbl0 : 0 < K.doc.length := by omega
  generalize K.doc = D at *
  refine run84 (Nat.le_of_ble_eq_true rfl) ?_
  rcases hp with rfl | ⟨rfl, rfl⟩
  · have g1 : ¬ ((D.length : Int) ≤ 4 + (pre.body.length : Int)) := by omega
    have g2 : ¬ (4 + (pre.body.length : Int) < 4) := by omega
    have w : IntKind.i64.wrap (4 + (pre.body.length : Int) + (E.length : Int)) = 4 + ((pre.body.length : Int) + (E.length : Int)) := by rw [wrap_i64 (by omega) (by omega)]; omega
    simp [iO, nnV, bl, g1, g2, s1, hre, hl4, hn1, hev, w, H.app_push, H.set_appL, ex3_0, ex3_1, ex3_2]
  · have g1 : ¬ D = [] := fun e => by rw [e] at hbl0; simp at hbl0
    have g2 : ¬ ((D.length : Int) < 4) := by omega
    simp only [Ks.body, List.length_nil, Int.ofNat_zero, Int.add_zero, Nat.zero_add] at s1 ⊢
    have w : IntKind.i64.wrap (4 + (E.length : Int)) = 4 + (E.length : Int) := wrap_i64 (by omega) (by omega)
    simp [iO, nnV, bl, g1, g2, s1, hre, hl4, hn1, hev, w, H.app_push, H.set_appL, ex3_0, ex3_1, ex3_2]
end Go.Proofs.YtcodfehgnjplcaaGreatDoor.Abs
