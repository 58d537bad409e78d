/- The bytes of values, elements and documents by the reference. -/
import Derived.Test.YtdnfnobgeddbfaaDoorEDoc4
import Derived.Test.YtdnfnobgeddbfaaDoorA28
namespace Go.Proofs.YtdnfnobgeddbfaaDoor.Abs
set_option linter.all false
open Go.Proofs
set_option linter.unusedVariables false
set_option linter.unusedSimpArgs false
set_option maxRecDepth 100000
set_option maxHeartbeats 8000000


def DBL (r : Ks) : Prop := ∀ (pre : Ks) (kn : Bool) (st : St) (bs : BS), st.s 0 = Ks.av 5 53 (pre.app r) kn → st.s 3 = bs.av 5 → st.s 4 = .int .i64 pre.len →
    (pre.app r).len ≤ reachBytes → r.wf → bs.l.length + r.sz ≤ 1073740000 →
    ∀ Q : Ex × St → Prop, (∀ st' : St, st'.h = st.h → st'.s 3 = (bs.app r.body).av 5 → Q (.exit 0, st')) → LoopR fns lc35_0 st Q

theorem c_DocBytes_of {ks : Ks} (kn : Bool) (h : DBL ks) (hl : ks.len ≤ reachBytes) (hW : ks.wf) (hs : ks.sz ≤ 1073740000) : ∀ hE : H, callω fns 35 [Ks.av 5 53 ks kn] hE = some ((BS.mk ks.doc).av 5, hE) := by
  intro hE
  refine run35 (Nat.le_of_ble_eq_true rfl) ?_
  simp
  refine h .nil kn _ .nil ?_ ?_ ?_ (by simpa [Ks.app] using hl) hW (by simpa [BS.l] using hs) _ fun st' e h3 => ?_
  · simp [Ks.app]
  · simp [BS.av]
  · simp [Ks.len]
  have hb := Ks.body_le ks
  unfold Ks.sz at hs
  have hw : IntKind.i64.wrap ((ks.body.length : Int) + 5) = ks.body.length + 5 := wrap_i64 (by omega) (by omega)
  have hd := c_DocInt32 .nil ((ks.body.length : Int) + 5) (by simp [BS.l])
  rw [BS.av_nil, BS.nil_app] at hd
  rw [BS.nil_app] at h3
  have h1 : ∀ hp : H, apV hp 5 1 1 false ((BS.mk (le32 ((ks.body.length : Int) + 5))).av 5) (bAV 5 (BS.mk ks.body).opt) = some ((BS.mk (le32 ((ks.body.length : Int) + 5) ++ ks.body)).av 5) := fun hp => by
    have := apV_b (hp := hp) (e := 5) (b := BS.mk (le32 ((ks.body.length : Int) + 5))) (o := (BS.mk ks.body).opt) (by simp [le32_length, tooLong]; omega)
    simpa [BS.mk_app] using this
  have h2 : ∀ hp : H, apV hp 5 1 1 false ((BS.mk (le32 ((ks.body.length : Int) + 5) ++ ks.body)).av 5) (.slice (.own true) 5 1 [.int .u8 0]) = some ((BS.mk ks.doc).av 5) := fun hp => by
    have := apV_l0 (hp := hp) (e := 5) (f := true) (b := BS.mk (le32 ((ks.body.length : Int) + 5) ++ ks.body)) (by simp [le32_length, tooLong]; omega)
    simpa [BS.mk_app, Ks.doc] using this
  simp [h3, hw, hd, h1, h2, e]

theorem c_DocElem_of {v : Tr} (nm : List UInt8) (h : ∀ hE : H, callω fns 30 [.agg (v.cells 5 53)] hE = some ((BS.mk v.val).av 5, hE)) (hs : nm.length + v.sz ≤ 1073740000) :
    ∀ hE : H, callω fns 20 [.agg (.str nm :: v.cells 5 53)] hE = some ((BS.mk (elemL nm v)).av 5, hE) := by
  intro hE
  refine run20 (Nat.le_of_ble_eq_true rfl) ?_
  have hv := Tr.val_le v
  unfold Tr.sz at hs
  have hh := c_DocHead v.kind nm (by omega)
  have h1 : ∀ hp : H, apV hp 5 1 1 false ((BS.mk (hdL v.kind nm)).av 5) ((BS.mk v.val).av 5) = some ((BS.mk (elemL nm v)).av 5) := fun hp => by
    have := apV_s (hp := hp) (e := 5) (b := BS.mk (hdL v.kind nm)) (c := BS.mk v.val) (by simp [hdL_length, tooLong]; omega)
    simpa [BS.mk_app, elemL] using this
  generalize elemL nm v = el at *
  generalize v.val = vl at *
  cases v with
  | mk k t m n bi hi b kn ks =>
  simp only [Tr.cells, Tr.kind] at h hh h1 ⊢
  simp [hh, h, h1]

theorem u64_of (n : Int) (h : True) : le64 (IntKind.u64.wrap n) = le64 n := by
  have e : IntKind.u64.wrap n = n % 18446744073709551616 := by simp [IntKind.wrap, IntKind.signed, IntKind.bits]
  rw [e]
  have hm : ∀ k : Nat, k ≤ 56 → byteOf (n % 18446744073709551616 / 2 ^ k) = byteOf (n / 2 ^ k) := fun k hk => by
    unfold byteOf
    congr 2
    have h1 : (18446744073709551616 : Int) = 2 ^ k * 2 ^ (64 - k) := by
      rw [← Int.pow_add, show k + (64 - k) = 64 by omega]; rfl
    have h2 : n % 18446744073709551616 = n - 2 ^ k * (2 ^ (64 - k) * (n / 18446744073709551616)) := by
      have := Int.emod_add_mul_ediv n 18446744073709551616
      rw [← Int.mul_assoc, ← h1]; omega
    rw [h2, Int.sub_ediv_of_dvd _ ⟨_, rfl⟩, Int.mul_ediv_cancel_left _ (Int.ne_of_gt (Int.pow_pos (by decide)))]
    have h3 : (2 : Int) ^ (64 - k) = 256 * 2 ^ (64 - k - 8) := by
      rw [show (256 : Int) = 2 ^ 8 by rfl, ← Int.pow_add]; congr 1; omega
    rw [h3, Int.mul_assoc, Int.sub_mul_emod_self_left]
  have h0 := hm 0 (by omega)
  simp at h0
  simp only [le64, h0, hm 8 (by omega), hm 16 (by omega), hm 24 (by omega), hm 32 (by omega), hm 40 (by omega), hm 48 (by omega), hm 56 (by omega)]

mutual
theorem c_DocValue : ∀ (v : Tr), v.wf → v.sz ≤ 1073740000 → ∀ hE : H, callω fns 30 [.agg (v.cells 5 53)] hE = some ((BS.mk v.val).av 5, hE)
  | .mk k t m n bi hi b kn ks, hW, hs => by
    simp only [Tr.wf] at hW
    have hsK : ks.sz ≤ 1073740000 ∧ t.length + m.length + (bl b).length + ks.sz + 18 ≤ 1073740000 := by
      simp only [Tr.sz, Tr.nb, Tr.nodes] at hs; simp only [Ks.sz]; omega
    have hB := c_DocBytes_of kn (l_DocBytes ks) hW.2.2.2.2.2.2.2.2.2.2.2.1 hW.2.2.2.2.2.2.2.2.2.2.2.2 hsK.1
    have hbl := Ks.body_le ks
    have hks : ks.sz = ks.nb + 18 * ks.nodes := rfl
    intro hE
    refine run30 (Nat.le_of_ble_eq_true rfl) ?_
    have e0 : AV.slice .nil 0 1 [] = (BS.mk []).av 5 := rfl
    simp [Tr.cells]
    by_cases k1 : k = 1
    · have := c_DocInt64 .nil bi (by simp [BS.l]); rw [BS.av_nil, BS.nil_app] at this
      have hv : (Tr.mk k t m n bi hi b kn ks).val = le64 bi := by simp [Tr.val, k1]
      rw [hv]; subst k1; simp [this]
    simp [k1]
    by_cases k17 : k = 17
    · have := c_DocInt64 .nil bi (by simp [BS.l]); rw [BS.av_nil, BS.nil_app] at this
      simp [k17, this, Tr.val]
    simp [k17]
    have ht := c_docText .nil t (by simp [BS.l]; omega)
    rw [BS.av_nil, BS.nil_app] at ht
    by_cases k2 : k = 2
    · simp [k2, ht, Tr.val]
    simp [k2]
    by_cases k13 : k = 13
    · simp [k13, ht, Tr.val]
    simp [k13]
    by_cases k14 : k = 14
    · simp [k14, ht, Tr.val]
    simp [k14]
    by_cases k3 : k = 3
    · simp [k3, hB, Tr.val, Ks.doc]
    simp [k3]
    by_cases k4 : k = 4
    · simp [k4, hB, Tr.val, Ks.doc]
    simp [k4]
    by_cases k5 : k = 5
    · have hw : IntKind.i64.wrap (((bl b).length : Int) + 4) = (bl b).length + 4 := wrap_i64 (by omega) (by omega)
      by_cases n2 : n = 2
      · have h1 := c_DocInt32 .nil (((bl b).length : Int) + 4) (by simp [BS.l]); rw [BS.av_nil, BS.nil_app] at h1
        have h2 : ∀ hp : H, apV hp 5 1 1 false ((BS.mk (le32 (((bl b).length : Int) + 4))).av 5) (.slice (.own true) 5 1 [.int .u8 2]) = some ((BS.mk (le32 (((bl b).length : Int) + 4) ++ [2])).av 5) := fun hp => by
          have := apV_l2 (hp := hp) (e := 5) (f := true) (b := BS.mk (le32 (((bl b).length : Int) + 4))) (by simp [le32_length, tooLong])
          simpa [BS.mk_app] using this
        have h3 := c_DocInt32 (BS.mk (le32 (((bl b).length : Int) + 4) ++ [2])) ((bl b).length : Int) (by simp [le32_length])
        have h4 : ∀ hp : H, apV hp 5 1 1 false (((BS.mk (le32 (((bl b).length : Int) + 4) ++ [2])).app (le32 ((bl b).length : Int))).av 5) (bAV 5 b) = some ((BS.mk (Tr.mk k t m n bi hi b kn ks).val).av 5) := fun hp => by
          have := apV_b (hp := hp) (e := 5) (o := b) (b := (BS.mk (le32 (((bl b).length : Int) + 4) ++ [2])).app (le32 ((bl b).length : Int))) (by simp [BS.l_app, le32_length, tooLong]; omega)
          simpa [BS.mk_app, Tr.val, k5, n2] using this
        generalize (Tr.mk k t m n bi hi b kn ks).val = V at *
        simp [k5, n2, hw, h1, h2, h3, h4]
      · have h1 := c_DocInt32 .nil ((bl b).length : Int) (by simp [BS.l]); rw [BS.av_nil, BS.nil_app] at h1
        have h2 : ∀ hp : H, apV hp 5 1 1 false ((BS.mk (le32 ((bl b).length : Int))).av 5) (.slice (.own true) 5 1 [.int .u8 ((byteOf n).toNat : Int)]) = some ((BS.mk (le32 ((bl b).length : Int) ++ [byteOf n])).av 5) := fun hp => by
          have := apV_l1 (hp := hp) (e := 5) (f := true) (c := byteOf n) (b := BS.mk (le32 ((bl b).length : Int))) (by simp [le32_length, tooLong])
          simpa [BS.mk_app] using this
        have h4 : ∀ hp : H, apV hp 5 1 1 false ((BS.mk (le32 ((bl b).length : Int) ++ [byteOf n])).av 5) (bAV 5 b) = some ((BS.mk (Tr.mk k t m n bi hi b kn ks).val).av 5) := fun hp => by
          have := apV_b (hp := hp) (e := 5) (o := b) (b := BS.mk (le32 ((bl b).length : Int) ++ [byteOf n])) (by simp [le32_length, tooLong]; omega)
          simpa [BS.mk_app, Tr.val, k5, n2] using this
        generalize (Tr.mk k t m n bi hi b kn ks).val = V at *
        simp [k5, n2, u8_wrap, h1, h2, h4]
    simp [k5]
    by_cases k7 : k = 7
    · have h1 : ∀ hp : H, apV hp 5 1 1 false (.slice .nil 0 1 []) (bAV 5 b) = some ((BS.mk (bl b)).av 5) := fun hp => by
        have := apV_b (hp := hp) (e := 5) (o := b) (b := .nil) (by simp [BS.l, tooLong]; omega)
        simpa [BS.av_nil, BS.nil_app] using this
      simp [k7, h1, Tr.val]
    simp [k7]
    by_cases k8 : k = 8
    · have h1 : ∀ hp : H, apV hp 5 1 1 false (.slice .nil 0 1 []) (.slice (.own true) 5 1 [.int .u8 ((byteOf n).toNat : Int)]) = some ((BS.mk [byteOf n]).av 5) := fun hp => by
        have := apV_l1 (hp := hp) (e := 5) (f := true) (c := byteOf n) (b := .nil) (by simp [BS.l, tooLong])
        simpa [BS.av_nil, BS.nil_app] using this
      simp [k8, u8_wrap, h1, Tr.val]
    simp [k8]
    have h64 := c_DocInt64 .nil (IntKind.u64.wrap n) (by simp [BS.l]); rw [BS.av_nil, BS.nil_app, u64_of n trivial] at h64
    by_cases k9 : k = 9
    · simp [k9, h64, Tr.val]
    simp [k9]
    by_cases k18 : k = 18
    · simp [k18, h64, Tr.val]
    simp [k18]
    by_cases k16 : k = 16
    · have h1 := c_DocInt32 .nil n (by simp [BS.l]); rw [BS.av_nil, BS.nil_app] at h1
      simp [k16, h1, Tr.val]
    simp [k16]
    by_cases k11 : k = 11
    · have h1 : ∀ hp : H, apV hp 5 1 1 true (.slice .nil 0 1 []) (.str t) = some ((BS.mk t).av 5) := fun hp => by
        have := apV_str (hp := hp) (e := 5) .nil t (by simp [BS.l, tooLong]; omega)
        simpa [BS.av_nil, BS.nil_app] using this
      have h2 : ∀ hp : H, apV hp 5 1 1 false ((BS.mk t).av 5) (.slice (.own true) 5 1 [.int .u8 0]) = some ((BS.mk (t ++ [0])).av 5) := fun hp => by
        have := apV_l0 (hp := hp) (e := 5) (f := true) (b := BS.mk t) (by simp [tooLong]; omega)
        simpa [BS.mk_app] using this
      have h3 : ∀ hp : H, apV hp 5 1 1 true ((BS.mk (t ++ [0])).av 5) (.str m) = some ((BS.mk (t ++ (0 :: m))).av 5) := fun hp => by
        have := apV_str (hp := hp) (e := 5) (BS.mk (t ++ [0])) m (by simp [tooLong]; omega)
        simpa [BS.mk_app] using this
      have h4 : ∀ hp : H, apV hp 5 1 1 false ((BS.mk (t ++ (0 :: m))).av 5) (.slice (.own true) 5 1 [.int .u8 0]) = some ((BS.mk (t ++ (0 :: (m ++ [0])))).av 5) := fun hp => by
        have := apV_l0 (hp := hp) (e := 5) (f := true) (b := BS.mk (t ++ (0 :: m))) (by simp [tooLong]; omega)
        simpa [BS.mk_app] using this
      simp [k11, h1, h2, h3, h4, Tr.val]
    simp [k11]
    by_cases k12 : k = 12
    · have h1 : ∀ hp : H, apV hp 5 1 1 false ((BS.mk (txtL t)).av 5) (bAV 5 b) = some ((BS.mk (txtL t ++ bl b)).av 5) := fun hp => by
        have := apV_b (hp := hp) (e := 5) (o := b) (b := BS.mk (txtL t)) (by simp [txtL_length, tooLong]; omega)
        simpa [BS.mk_app] using this
      simp [k12, ht, h1, Tr.val]
    simp [k12]
    by_cases k15 : k = 15
    · have hdl := Ks.doc_length ks
      have hw1 : IntKind.i64.wrap (4 + ((txtL t).length : Int)) = 4 + (txtL t).length := wrap_i64 (by omega) (by rw [txtL_length]; omega)
      have hw2 : IntKind.i64.wrap (4 + ((txtL t).length : Int) + (ks.doc.length : Int)) = 4 + (txtL t).length + ks.doc.length := wrap_i64 (by omega) (by rw [txtL_length]; omega)
      have h1 := c_DocInt32 .nil (4 + ((txtL t).length : Int) + (ks.doc.length : Int)) (by simp [BS.l]); rw [BS.av_nil, BS.nil_app] at h1
      have h2 : ∀ hp : H, apV hp 5 1 1 false ((BS.mk (le32 (4 + ((txtL t).length : Int) + (ks.doc.length : Int)))).av 5) (bAV 5 (BS.mk (txtL t)).opt) = some ((BS.mk (le32 (4 + ((txtL t).length : Int) + (ks.doc.length : Int)) ++ txtL t)).av 5) := fun hp => by
        have := apV_b (hp := hp) (e := 5) (o := (BS.mk (txtL t)).opt) (b := BS.mk (le32 (4 + ((txtL t).length : Int) + (ks.doc.length : Int)))) (by simp [txtL_length, le32_length, tooLong]; omega)
        simpa [BS.mk_app] using this
      have h3 : ∀ hp : H, apV hp 5 1 1 false ((BS.mk (le32 (4 + ((txtL t).length : Int) + (ks.doc.length : Int)) ++ txtL t)).av 5) (bAV 5 (BS.mk ks.doc).opt) = some ((BS.mk (Tr.mk k t m n bi hi b kn ks).val).av 5) := fun hp => by
        have := apV_b (hp := hp) (e := 5) (o := (BS.mk ks.doc).opt) (b := BS.mk (le32 (4 + ((txtL t).length : Int) + (ks.doc.length : Int)) ++ txtL t)) (by simp [txtL_length, le32_length, tooLong, hdl]; omega)
        have hv : (Tr.mk k t m n bi hi b kn ks).val = le32 (4 + ((txtL t).length : Int) + (ks.doc.length : Int)) ++ (txtL t ++ ks.doc) := by
          rw [hdl]; simp [Tr.val, k15, Ks.doc]
        rw [hv]; simpa [BS.mk_app] using this
      generalize (Tr.mk k t m n bi hi b kn ks).val = V at *
      simp [k15, ht, hB, hw1, hw2, h1, h2, h3]
    simp [k15]
    by_cases k19 : k = 19
    · have h1 := c_DocInt64 .nil bi (by simp [BS.l]); rw [BS.av_nil, BS.nil_app] at h1
      have h2 := c_DocInt64 (BS.mk (le64 bi)) hi (by simp [le64_length]); rw [BS.mk_app] at h2
      simp [k19, h1, h2, Tr.val]
    simp [k19]
    have hv : (Tr.mk k t m n bi hi b kn ks).val = [] := by simp [Tr.val, k1, k17, k2, k13, k14, k3, k4, k5, k7, k8, k9, k18, k16, k11, k12, k15, k19]
    rw [hv]; rfl
theorem l_DocBytes : ∀ (r : Ks), DBL r
  | .nil, pre, kn, st, bs, h0, h3, h4, hL, hW, hs, Q, hQ => by
    refine loopω_run fns ?_
    rw [Ks.app_nil] at h0
    simp [h0, h3, h4]
    refine hQ _ rfl ?_
    simp [h3, Ks.body]
    cases bs <;> simp [BS.app]
  | .cons nm v r, pre, kn, st, bs, h0, h3, h4, hL, hW, hs, Q, hQ => by
    refine loopω_run fns ?_
    have hlt : (pre.len : Int) < ((pre.app (.cons nm v r)).len : Int) := by rw [Ks.len_app]; simp [Ks.len]; omega
    have hL' := hL
    rw [Ks.len_app, Ks.len] at hL'; simp only [reachBytes] at hL'
    have hw2 : IntKind.i64.wrap ((pre.len : Int) + 1) = pre.len + 1 := wrap_i64 (by omega) (by omega)
    have hs' : bs.l.length + (nm.length + v.nb + r.nb + 18 * (v.nodes + r.nodes)) ≤ 1073740000 := by simpa [Ks.sz, Ks.nb, Ks.nodes] using hs
    have hE := c_DocElem_of nm (c_DocValue v hW.2.1 (by unfold Tr.sz; omega)) (by unfold Tr.sz; omega)
    have hvl := Tr.val_le v
    have hel : (elemL nm v).length = nm.length + 2 + v.val.length := by simp [elemL, hdL_length]
    have h1 : ∀ hp : H, apV hp 5 1 1 false (bs.av 5) ((BS.mk (elemL nm v)).av 5) = some ((bs.app (elemL nm v)).av 5) := fun hp => by
      have := apV_s (hp := hp) (e := 5) (b := bs) (c := BS.mk (elemL nm v)) (by simp [hel, tooLong]; omega)
      simpa using this
    simp [h0, h3, h4, hlt, Ks.av_ix, take8, hE, h1, hw2]
    refine l_DocBytes r (pre.app (.cons nm v .nil)) kn _ (bs.app (elemL nm v)) ?_ ?_ ?_ (by simpa [Ks.app_assoc, Ks.app] using hL) hW.2.2 (by simp [BS.l_app, hel, Ks.sz]; omega) Q (fun st' e h => hQ st' e ?_)
    · simp [h0, Ks.app_assoc, Ks.app]
    · simp
    · simp [Ks.len_app, Ks.len]
    · rw [h, BS.app_app]; simp [Ks.body, elemL, hdL]
end
end Go.Proofs.YtdnfnobgeddbfaaDoor.Abs
