/- Documents and arrays appended in place; values with all that is in them. -/
import Derived.Test.YtcodfehgnjplcaaEAppend
import Derived.Test.YtcodfehgnjplcaaECopy
namespace Go.Proofs.Ytcodfehgnjplcaa.Abs
set_option linter.all false
open Go.Proofs
set_option linter.unusedVariables false
set_option linter.unusedSimpArgs false
set_option maxRecDepth 100000
set_option maxHeartbeats 8000000

def APD (r : Ks) : Prop := ∀ (arr : Bool) (i d : Nat), r.right arr i d = true → ∀ (pre : Ks) (kn : Bool) (st : St) (L : List UInt8) (a0 : Int), st.s 5 = .int .i32 a0 → st.s 36 = Ks.av 5 31 (pre.app r) kn → st.s 37 = .int .i64 (pre.app r).len → st.s 38 = .int .i64 pre.len → st.s 6 = (BS.own true L).av 5 →
    (pre.app r).len ≤ reachBytes → r.wf → L.length + r.sz ≤ 899999000 →
    ∀ Q : Ex × St → Prop, (∀ st' : St, st'.h = st.h → st'.s 5 = .int .i32 a0 → st'.s 6 = (BS.own true (L ++ r.body)).av 5 → Q (.exit 1, st')) → LoopR fns lc36_0 st Q
def APA (r : Ks) : Prop := ∀ (arr : Bool) (i d : Nat), r.right arr i d = true → ∀ (pre : Ks) (kn : Bool) (st : St) (L : List UInt8) (a0 : Int), st.s 9 = .int .i32 a0 → st.s 64 = Ks.av 5 31 (pre.app r) kn → st.s 65 = .int .i64 (pre.app r).len → st.s 66 = .int .i64 pre.len → st.s 10 = (BS.own true L).av 5 →
    (pre.app r).len ≤ reachBytes → r.wf → L.length + r.sz ≤ 899999000 →
    ∀ Q : Ex × St → Prop, (∀ st' : St, st'.h = st.h → st'.s 9 = .int .i32 a0 → st'.s 10 = (BS.own true (L ++ r.body)).av 5 → Q (.exit 3, st')) → LoopR fns lc36_1 st Q

theorem c_appDoc {ks : Ks} (h : APD ks) {arr : Bool} {i d : Nat} (hR : ks.right arr i d = true) (hl : ks.len ≤ reachBytes) (hW : ks.wf) (b : BS) (hb : b.fr) (hs : b.l.length + ks.sz + 18 ≤ 899999000) (t m : List UInt8) (n bi hi : Int) (bb : Option (List UInt8)) (kn : Bool) : ∀ hE : H,
    callω fns 36 [b.av 5, .agg ((Tr.mk 3 t m n bi hi bb kn ks).cells 5 31)] hE = some ((b.app ks.doc).av 5, hE) := by
  intro hE
  have hbl := Ks.body_le ks
  have hks : ks.sz = ks.nb + 18 * ks.nodes := rfl
  have h1 := c_DocStart b (by omega)
  rw [BS.fr_app hb (m := [0, 0, 0, 0]) (by simp)] at h1
  have h2 := c_DocEnd (b.l ++ [0, 0, 0, 0] ++ ks.body) b.l.length (by simp only [List.length_append, List.length_cons, List.length_nil]; omega) (by simp only [List.length_append, List.length_cons, List.length_nil]; omega)
  rw [doc_set] at h2
  have hd : BS.own true (b.l ++ (le32 ((ks.body.length : Int) + 5) ++ (ks.body ++ [0]))) = b.app ks.doc := by
    rw [BS.fr_app hb (m := ks.doc) (by simp [Ks.doc])]; rfl
  rw [hd] at h2
  have hw : IntKind.i32.wrap (b.l.length : Int) = b.l.length := i32_of (by omega) (by omega)
  refine run36 (Nat.le_of_ble_eq_true rfl) ?_
  simp [Tr.cells, h1, ex2_0, ex2_1]
  refine h arr i d hR .nil kn _ (b.l ++ [0, 0, 0, 0]) b.l.length ?_ ?_ ?_ ?_ ?_ (by simpa [Ks.app] using hl) hW (by simp; omega) _ fun st' e e5 h6 => ?_
  · simp
  · simp [Ks.app]
  · simp [Ks.app]
  · simp [Ks.len]
  · simp
  generalize b.l ++ [0, 0, 0, 0] ++ ks.body = A at *
  simp [e5, h6, e, h2, ex2_0, ex2_1]
theorem c_appArr {ks : Ks} (h : APA ks) {arr : Bool} {i d : Nat} (hR : ks.right arr i d = true) (hl : ks.len ≤ reachBytes) (hW : ks.wf) (b : BS) (hb : b.fr) (hs : b.l.length + ks.sz + 18 ≤ 899999000) (t m : List UInt8) (n bi hi : Int) (bb : Option (List UInt8)) (kn : Bool) : ∀ hE : H,
    callω fns 36 [b.av 5, .agg ((Tr.mk 4 t m n bi hi bb kn ks).cells 5 31)] hE = some ((b.app ks.doc).av 5, hE) := by
  intro hE
  have hbl := Ks.body_le ks
  have hks : ks.sz = ks.nb + 18 * ks.nodes := rfl
  have h1 := c_ArrStart b (by omega)
  rw [BS.fr_app hb (m := [0, 0, 0, 0]) (by simp)] at h1
  have h2 := c_ArrEnd (b.l ++ [0, 0, 0, 0] ++ ks.body) b.l.length (by simp only [List.length_append, List.length_cons, List.length_nil]; omega) (by simp only [List.length_append, List.length_cons, List.length_nil]; omega)
  rw [doc_set] at h2
  have hd : BS.own true (b.l ++ (le32 ((ks.body.length : Int) + 5) ++ (ks.body ++ [0]))) = b.app ks.doc := by
    rw [BS.fr_app hb (m := ks.doc) (by simp [Ks.doc])]; rfl
  rw [hd] at h2
  refine run36 (Nat.le_of_ble_eq_true rfl) ?_
  simp [Tr.cells, h1, ex2_0, ex2_1]
  refine h arr i d hR .nil kn _ (b.l ++ [0, 0, 0, 0]) b.l.length ?_ ?_ ?_ ?_ ?_ (by simpa [Ks.app] using hl) hW (by simp; omega) _ fun st' e e5 h6 => ?_
  · simp
  · simp [Ks.app]
  · simp [Ks.app]
  · simp [Ks.len]
  · simp
  generalize b.l ++ [0, 0, 0, 0] ++ ks.body = A at *
  simp [e5, h6, e, h2, ex2_0, ex2_1]
theorem c_scope {ks : Ks} (h : APD ks) {arr : Bool} {i d : Nat} (hR : ks.right arr i d = true) (hl : ks.len ≤ reachBytes) (hW : ks.wf) (hs : ks.sz + 18 ≤ 899999000) (k : Int) (t m : List UInt8) (n bi hi : Int) (bb : Option (List UInt8)) (kn : Bool) : ∀ hE : H,
    callω fns 50 [.agg ((Tr.mk k t m n bi hi bb kn ks).cells 5 31)] hE = some ((BS.mk ks.doc).av 5, hE) := by
  intro hE
  have e := c_appDoc h hR hl hW .nil (.inl rfl) (by simpa [BS.l] using hs) [] [] 0 0 0 none kn
  simp only [Tr.cells] at e
  have e1 : bAV 5 none = AV.slice .nil 0 1 [] := rfl
  rw [e1, BS.av_nil, BS.nil_app] at e
  refine run50 (Nat.le_of_ble_eq_true rfl) ?_
  simp [Tr.cells, e]

theorem right_kids {k : Int} {t m : List UInt8} {n bi hi : Int} {bb : Option (List UInt8)} {kn : Bool} {ks : Ks} {d : Nat} (hR : (Tr.mk k t m n bi hi bb kn ks).right d = true) (hk : k = 3 ∨ k = 4 ∨ k = 15) : ks.right (k == 4) 0 (d - 1) = true := by
  simp only [Tr.right, Bool.and_eq_true] at hR
  obtain ⟨_, _, _, h⟩ := hR
  rcases hk with rfl | rfl | rfl <;> simpa using h

mutual
theorem c_element : ∀ (v : Tr) (d : Nat), v.wf → v.right d = true → ∀ (nm : List UInt8), plainL nm = true → ∀ b : BS, b.l.length + nm.length + v.sz ≤ 899999000 → ∀ hE : H,
    callω fns 20 [b.av 5, .str nm, .agg (v.cells 5 31)] hE = some ((b.app (elemL nm v)).av 5, hE)
  | .mk k t m n bi hi bb kn ks, d, hW, hR, nm, hp, b, hs => by
    have hW' := hW
    simp only [Tr.wf] at hW'
    have hl := hW'.2.2.2.2.2.2.2.2.2.2.2.1
    have hw := hW'.2.2.2.2.2.2.2.2.2.2.2.2
    have hs' : ks.sz + 18 ≤ 899999000 := by simp only [Tr.sz, Tr.nb, Tr.nodes] at hs; simp only [Ks.sz]; omega
    refine c_element_of hW hR ?_ ?_ nm hp b (by omega)
    · rintro (rfl | rfl)
      · have := c_appDoc (l_appD ks) (right_kids hR (.inl rfl)) hl hw .nil (.inl rfl) (by simpa [BS.l] using hs') t m n bi hi bb kn
        simpa [Tr.val, Ks.doc, BS.av_nil, BS.nil_app] using this
      · have := c_appArr (l_appA ks) (right_kids hR (.inr (.inl rfl))) hl hw .nil (.inl rfl) (by simpa [BS.l] using hs') t m n bi hi bb kn
        simpa [Tr.val, Ks.doc, BS.av_nil, BS.nil_app] using this
    · rintro rfl
      exact c_scope (l_appD ks) (right_kids hR (.inr (.inr rfl))) hl hw hs' 15 t m n bi hi bb kn
theorem l_appD : ∀ (r : Ks), APD r
  | .nil, arr, i, d, hR, pre, kn, st, L, a0, h5, h0, h1, h2, h3, hL, hW, hs, Q, hQ => by
    refine loopω_run fns ?_
    rw [Ks.app_nil] at h0 h1
    simp [h0, h1, h2, h3]
    refine hQ _ rfl (by simp [h5]) ?_
    simp [h3, Ks.body]
  | .cons nm v r, arr, i, d, hR, pre, kn, st, L, a0, h5, h0, h1, h2, h3, hL, hW, hs, Q, hQ => by
    simp only [Ks.right, Bool.and_eq_true] at hR
    obtain ⟨hp, _, hv, hr⟩ := hR
    refine loopω_run fns ?_
    have hlt : (pre.len : Int) < ((pre.app (.cons nm v r)).len : Int) := by rw [Ks.len_app]; simp [Ks.len]; omega
    have hL' := hL
    rw [Ks.len_app, Ks.len] at hL'; simp only [reachBytes] at hL'
    have hw2 : IntKind.i64.wrap ((pre.len : Int) + 1) = pre.len + 1 := wrap_i64 (by omega) (by omega)
    have hs' : L.length + (nm.length + v.nb + r.nb + 18 * (v.nodes + r.nodes)) ≤ 899999000 := by simpa [Ks.sz, Ks.nb, Ks.nodes] using hs
    have hE := c_element v d hW.2.1 hv nm hp (BS.own true L) (by simp only [BS.l]; unfold Tr.sz; omega)
    have hvl := Tr.val_le v
    have hel : (elemL nm v).length = nm.length + 2 + v.val.length := by simp [elemL, hdL_length]
    have ha : (BS.own true L).app (elemL nm v) = BS.own true (L ++ elemL nm v) := rfl
    rw [ha] at hE
    simp [h0, h1, h2, h3, hlt, Ks.av_ix, take8, hE, hw2]
    refine l_appD r arr (i + 1) d hr (pre.app (.cons nm v .nil)) kn _ (L ++ elemL nm v) a0 ?_ ?_ ?_ ?_ ?_ (by simpa [Ks.app_assoc, Ks.app] using hL) hW.2.2 (by simp [hel, Ks.sz]; omega) Q (fun st' e e5 h => hQ st' e e5 ?_)
    · simp [h5]
    · simp [h0, Ks.app_assoc, Ks.app]
    · simp [h1, Ks.app_assoc, Ks.app]
    · simp [Ks.len_app, Ks.len]
    · simp
    · rw [h]; simp [Ks.body, elemL, hdL]
theorem l_appA : ∀ (r : Ks), APA r
  | .nil, arr, i, d, hR, pre, kn, st, L, a0, h5, h0, h1, h2, h3, hL, hW, hs, Q, hQ => by
    refine loopω_run fns ?_
    rw [Ks.app_nil] at h0 h1
    simp [h0, h1, h2, h3]
    refine hQ _ rfl (by simp [h5]) ?_
    simp [h3, Ks.body]
  | .cons nm v r, arr, i, d, hR, pre, kn, st, L, a0, h5, h0, h1, h2, h3, hL, hW, hs, Q, hQ => by
    simp only [Ks.right, Bool.and_eq_true] at hR
    obtain ⟨hp, _, hv, hr⟩ := hR
    refine loopω_run fns ?_
    have hlt : (pre.len : Int) < ((pre.app (.cons nm v r)).len : Int) := by rw [Ks.len_app]; simp [Ks.len]; omega
    have hL' := hL
    rw [Ks.len_app, Ks.len] at hL'; simp only [reachBytes] at hL'
    have hw2 : IntKind.i64.wrap ((pre.len : Int) + 1) = pre.len + 1 := wrap_i64 (by omega) (by omega)
    have hs' : L.length + (nm.length + v.nb + r.nb + 18 * (v.nodes + r.nodes)) ≤ 899999000 := by simpa [Ks.sz, Ks.nb, Ks.nodes] using hs
    have hE := c_element v d hW.2.1 hv nm hp (BS.own true L) (by simp only [BS.l]; unfold Tr.sz; omega)
    have hvl := Tr.val_le v
    have hel : (elemL nm v).length = nm.length + 2 + v.val.length := by simp [elemL, hdL_length]
    have ha : (BS.own true L).app (elemL nm v) = BS.own true (L ++ elemL nm v) := rfl
    rw [ha] at hE
    simp [h0, h1, h2, h3, hlt, Ks.av_ix, take8, hE, hw2]
    refine l_appA r arr (i + 1) d hr (pre.app (.cons nm v .nil)) kn _ (L ++ elemL nm v) a0 ?_ ?_ ?_ ?_ ?_ (by simpa [Ks.app_assoc, Ks.app] using hL) hW.2.2 (by simp [hel, Ks.sz]; omega) Q (fun st' e e5 h => hQ st' e e5 ?_)
    · simp [h5]
    · simp [h0, Ks.app_assoc, Ks.app]
    · simp [h1, Ks.app_assoc, Ks.app]
    · simp [Ks.len_app, Ks.len]
    · simp
    · rw [h]; simp [Ks.body, elemL, hdL]
end
end Go.Proofs.Ytcodfehgnjplcaa.Abs
