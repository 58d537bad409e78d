/- TR8, EDoc1 -/
import Derived.Test.YtdnfnobgeddbfaaDoorTR7
import Derived.Test.YtdnfnobgeddbfaaDoorA28
import Derived.Test.YtdnfnobgeddbfaaDoorFFnBindLookup
/- Right documents' bytes: what is read of them. -/
namespace Go.Proofs.YtdnfnobgeddbfaaDoor.Abs
set_option linter.all false

theorem num32_le32 {m : Int} {r : List UInt8} (h0 : -2147483648 ≤ m) (h1 : m < 2147483648) : num32 (le32 m ++ r) = m := by
  show rd32 _ _ _ _ = m
  exact rd32_le32 h0 h1
theorem lenD_le32 {m d : Int} {r : List UInt8} (h0 : 0 ≤ m) (hd : 0 ≤ d) (h1 : m + d < 2147483648) : lenD d (le32 m ++ r) = some (m + d).toNat := by
  unfold lenD
  rw [num32_le32 (by omega) (by omega), if_pos ⟨by simp [le32_length], h0, h1⟩]
theorem knownK_cases {k : Int} (h : knownK k = true) : k = 1 ∨ k = 2 ∨ k = 3 ∨ k = 4 ∨ k = 5 ∨ k = 6 ∨ k = 7 ∨ k = 8 ∨ k = 9 ∨ k = 10 ∨ k = 11 ∨ k = 12 ∨ k = 13 ∨ k = 14 ∨ k = 15 ∨ k = 16 ∨ k = 17 ∨ k = 18 ∨ k = 19 ∨ k = 127 ∨ k = 255 := by
  simp [knownK] at h; omega
theorem kind_range {v : Tr} {d : Nat} (h : v.right d = true) : 0 ≤ v.kind ∧ v.kind < 256 := by
  cases v with
  | mk k t m n bi hi bb kn ks =>
  simp only [Tr.right, Bool.and_eq_true] at h
  have := knownK_cases h.1
  simp only [Tr.kind]; omega
theorem rxLen_regex {t m r : List UInt8} (ht : plainL t = true) (hm : plainL m = true) : rxLen (t ++ (0 :: (m ++ [0])) ++ r) = some (t.length + m.length + 2) := by
  unfold rxLen
  rw [List.append_assoc, List.cons_append, nul_plain ht]
  have e : (t ++ 0 :: ((m ++ [0]) ++ r)).drop (t.length + 1) = m ++ 0 :: r := by
    rw [List.drop_append]
    simp
  simp only [Option.bind_some, e, nul_plain hm, Option.map_some]
  congr 1; omega
/-- A right value is as long as its bytes say. -/
theorem vLen_val (v : Tr) {dd : Nat} (hR : v.right dd = true) (hs : v.sz ≤ 1000000000) (r : List UInt8) : vLen v.kind (v.val ++ r) = some v.val.length := by
  cases v with
  | mk k t m n bi hi bb kn ks =>
  simp only [Tr.right, Bool.and_eq_true] at hR
  obtain ⟨hk, hd, hbare, hR⟩ := hR
  have hb := Ks.body_le ks
  simp only [Tr.sz, Tr.nb, Tr.nodes] at hs
  have htl := txtL_length t
  simp only [Tr.kind]
  have txt : ∀ r : List UInt8, txtL t ++ r = le32 (t.length + 1) ++ (t ++ [0] ++ r) := fun r => by simp [txtL]
  have nat : ∀ {a : Int} {b : Nat}, a = b → some a.toNat = some b := fun h => by rw [h]; rfl
  rcases knownK_cases hk with rfl | rfl | rfl | rfl | rfl | rfl | rfl | rfl | rfl | rfl | rfl | rfl | rfl | rfl | rfl | rfl | rfl | rfl | rfl | rfl | rfl
  · rfl
  · have hv : (Tr.mk 2 t m n bi hi bb kn ks).val = txtL t := by simp [Tr.val]
    rw [hv]; show lenD 4 _ = _
    rw [txt, lenD_le32 (by omega) (by omega) (by omega)]; exact nat (by rw [htl]; omega)
  · have hv : (Tr.mk 3 t m n bi hi bb kn ks).val = le32 ((ks.body.length : Int) + 5) ++ (ks.body ++ [0]) := by simp [Tr.val]
    rw [hv]; show lenD 0 _ = _
    rw [List.append_assoc, lenD_le32 (by omega) (by omega) (by omega)]; exact nat (by simp [le32_length]; omega)
  · have hv : (Tr.mk 4 t m n bi hi bb kn ks).val = le32 ((ks.body.length : Int) + 5) ++ (ks.body ++ [0]) := by simp [Tr.val]
    rw [hv]; show lenD 0 _ = _
    rw [List.append_assoc, lenD_le32 (by omega) (by omega) (by omega)]; exact nat (by simp [le32_length]; omega)
  · by_cases n2 : n = 2
    · subst n2
      have hv : (Tr.mk 5 t m 2 bi hi bb kn ks).val = le32 (((bl bb).length : Int) + 4) ++ (2 :: (le32 (bl bb).length ++ bl bb)) := by simp [Tr.val]
      rw [hv]; show lenD 5 _ = _
      rw [List.append_assoc, lenD_le32 (by omega) (by omega) (by omega)]; exact nat (by simp [le32_length]; omega)
    · have hv : (Tr.mk 5 t m n bi hi bb kn ks).val = le32 ((bl bb).length : Int) ++ (byteOf n :: bl bb) := by simp [Tr.val, n2]
      rw [hv]; show lenD 5 _ = _
      rw [List.append_assoc, lenD_le32 (by omega) (by omega) (by omega)]; exact nat (by simp [le32_length]; omega)
  · rfl
  · simp only [Int.reduceEq, if_false, or_self, or_false, if_true, true_or, decide_eq_true_eq] at hR
    have hv : (Tr.mk 7 t m n bi hi bb kn ks).val = bl bb := by simp [Tr.val]
    rw [hv, hR]; rfl
  · rfl
  · rfl
  · rfl
  · simp at hR
    have hv : (Tr.mk 11 t m n bi hi bb kn ks).val = t ++ (0 :: (m ++ [0])) := by simp [Tr.val]
    rw [hv]; show rxLen _ = _
    rw [rxLen_regex hR.1 hR.2]; simp; omega
  · simp at hR
    have hv : (Tr.mk 12 t m n bi hi bb kn ks).val = txtL t ++ bl bb := by simp [Tr.val]
    rw [hv]; show lenD 16 _ = _
    rw [List.append_assoc, txt, lenD_le32 (by omega) (by omega) (by omega)]; exact nat (by rw [List.length_append, htl, hR]; omega)
  · have hv : (Tr.mk 13 t m n bi hi bb kn ks).val = txtL t := by simp [Tr.val]
    rw [hv]; show lenD 4 _ = _
    rw [txt, lenD_le32 (by omega) (by omega) (by omega)]; exact nat (by rw [htl]; omega)
  · have hv : (Tr.mk 14 t m n bi hi bb kn ks).val = txtL t := by simp [Tr.val]
    rw [hv]; show lenD 4 _ = _
    rw [txt, lenD_le32 (by omega) (by omega) (by omega)]; exact nat (by rw [htl]; omega)
  · have hv : (Tr.mk 15 t m n bi hi bb kn ks).val = le32 (4 + (txtL t).length + ((Ks.body ks).length + 5)) ++ (txtL t ++ (le32 ((Ks.body ks).length + 5) ++ (Ks.body ks ++ [0]))) := by simp [Tr.val]
    rw [hv]; show lenD 0 _ = _
    rw [List.append_assoc, lenD_le32 (by omega) (by omega) (by omega)]; exact nat (by simp [le32_length]; omega)
  · rfl
  · rfl
  · rfl
  · rfl
  · rfl
  · rfl
/-- It has at least four bytes, if it is one that says so. -/
theorem val_four (v : Tr) (hk : v.kind = 3 ∨ v.kind = 4 ∨ v.kind = 15) : 4 ≤ v.val.length := by
  cases v with
  | mk k t m n bi hi bb kn ks =>
  simp only [Tr.kind] at hk
  rcases hk with rfl | rfl | rfl <;> simp [Tr.val, le32_length] <;> omega
theorem vGet_val (v : Tr) {dd : Nat} (hR : v.right dd = true) (hs : v.sz ≤ 1000000000) (r : List UInt8) : vGet v.kind (v.val ++ r) = some v.val.length := by
  simp only [vGet, vLen_val v hR hs r, Option.bind_some, List.length_append]
  rw [if_pos (by omega)]
theorem byteOf_kind {v : Tr} {dd : Nat} (hR : v.right dd = true) : ((byteOf v.kind).toNat : Int) = v.kind := by
  have := kind_range hR
  rw [byteOf_toNat]; omega
theorem elemL_length (nm : List UInt8) (v : Tr) : (elemL nm v).length = nm.length + 2 + v.val.length := by simp [elemL, hdL_length]
theorem elemL_eq (nm : List UInt8) (v : Tr) (r : List UInt8) : elemL nm v ++ r = byteOf v.kind :: (nm ++ 0 :: (v.val ++ r)) := by simp [elemL, hdL]
/-- An element ahead of anything. -/
theorem eGet_elem {nm : List UInt8} {v : Tr} {dd : Nat} (hp : plainL nm = true) (hR : v.right dd = true) (hs : v.sz ≤ 1000000000) (r : List UInt8) : eGet (elemL nm v ++ r) = some (elemL nm v).length := by
  rw [elemL_eq, elemL_length]
  show (nul (nm ++ 0 :: (v.val ++ r))).bind _ = _
  rw [nul_plain hp]
  have e : (nm ++ 0 :: (v.val ++ r)).drop (nm.length + 1) = v.val ++ r := by rw [List.drop_append]; simp
  simp only [Option.bind_some, e, byteOf_kind hR, vLen_val v hR hs r]
  rw [if_pos (by simp; omega)]
theorem eParts_elem {nm : List UInt8} {v : Tr} (hp : plainL nm = true) : eParts (elemL nm v) = some (byteOf v.kind, nm, v.val) := by
  have h := elemL_eq nm v []
  rw [List.append_nil, List.append_nil] at h
  rw [h]
  show (nul (nm ++ 0 :: v.val)).map _ = _
  rw [nul_plain hp]
  simp
theorem eOk_elem {nm : List UInt8} {v : Tr} {dd : Nat} (hp : plainL nm = true) (hR : v.right dd = true) (hs : v.sz ≤ 1000000000) : eOk (elemL nm v) = true := by
  unfold eOk
  rw [eParts_elem hp]
  simp only [byteOf_kind hR]
  have := vGet_val v hR hs []
  rw [List.append_nil] at this
  rw [this]; rfl
theorem kv_elem {nm : List UInt8} {v : Tr} {dd : Nat} (hp : plainL nm = true) (hR : v.right dd = true) : kv (elemL nm v) = (v.kind, v.val) := by
  unfold kv
  rw [eParts_elem hp]
  simp only [byteOf_kind hR]

/-- Names and values that are right, whatever holds them. -/
def Ks.good : Ks → Prop
  | .nil => True
  | .cons nm v r => plainL nm = true ∧ (∃ d, v.right d = true) ∧ Ks.good r
theorem Ks.right_good : ∀ {ks : Ks} {arr : Bool} {i d : Nat}, ks.right arr i d = true → ks.good
  | .nil, _, _, _, _ => trivial
  | .cons nm v r, arr, i, d, h => by
    simp only [Ks.right, Bool.and_eq_true] at h
    exact ⟨h.1, ⟨d, h.2.2.1⟩, Ks.right_good h.2.2.2⟩
theorem Ks.sz_cons (nm : List UInt8) (v : Tr) (r : Ks) : (Ks.cons nm v r).sz = nm.length + v.sz + r.sz := by simp only [Ks.sz, Tr.sz, Ks.nb, Ks.nodes]; omega
theorem elemsR_body : ∀ (ks : Ks) (f : Nat) (e : List UInt8), ks.good → ks.sz ≤ 1000000000 → ks.body.length < f → e.length ≤ 1 →
    elemsR f (ks.body.length + e.length : Nat) (ks.body ++ e) = (ks.elems, true) ∧ elemsT f (ks.body.length + e.length : Nat) (ks.body ++ e) = e ∧
    ∀ k, elemAt f (ks.body.length + e.length : Nat) (ks.body ++ e) k = (match ks.elems[k]? with | some x => (0, x) | none => (2, []))
  | .nil, f + 1, e, _, _, _, he => by
    simp only [Ks.body, List.length_nil, Nat.zero_add, List.nil_append, elemsR, elemsT, elemAt, Ks.elems]
    have : ((e.length : Nat) : Int) ≤ 1 := by omega
    rw [if_pos this, if_pos this]
    refine ⟨rfl, rfl, fun k => ?_⟩
    rw [if_pos this]; rfl
  | .cons nm v r, f + 1, e, hg, hs, hf, he => by
    obtain ⟨hp, ⟨d, hR⟩, hgr⟩ := hg
    rw [Ks.sz_cons] at hs
    have hb : (Ks.cons nm v r).body ++ e = elemL nm v ++ (r.body ++ e) := by simp [Ks.body, elemL, hdL]
    have hbl : (Ks.cons nm v r).body.length = (elemL nm v).length + r.body.length := by simp [Ks.body, elemL, hdL]; omega
    have hel := elemL_length nm v
    have hge := eGet_elem hp hR (by omega) (r.body ++ e)
    have hok := eOk_elem hp hR (by omega : v.sz ≤ 1000000000)
    have hn : ¬ (((Ks.cons nm v r).body.length + e.length : Nat) : Int) ≤ 1 := by omega
    have htk : (elemL nm v ++ (r.body ++ e)).take (elemL nm v).length = elemL nm v := by simp
    have hdr : (elemL nm v ++ (r.body ++ e)).drop (elemL nm v).length = r.body ++ e := by simp
    have hnn : ((((Ks.cons nm v r).body.length + e.length : Nat) : Int) - ((elemL nm v).length : Nat)) = ((r.body.length + e.length : Nat) : Int) := by omega
    obtain ⟨i1, i2, i3⟩ := elemsR_body r f e hgr (by omega) (by omega) he
    simp only [elemsR, elemsT, elemAt, hb]
    rw [if_neg hn, if_neg hn]
    simp only [hge, htk, hdr, hok, if_true, hnn, i1, i2, Ks.elems]
    refine ⟨trivial, trivial, fun k => ?_⟩
    rw [if_neg hn]
    cases k with
    | zero => rfl
    | succ k => simp only [i3]; rfl
  | ks, 0, e, _, _, hf, _ => by omega
theorem doc_num (ks : Ks) (hs : ks.sz ≤ 1000000000) : num32 ks.doc = ks.body.length + 5 ∧ ks.doc.drop 4 = ks.body ++ [0] := by
  have hb := Ks.body_le ks
  simp only [Ks.sz] at hs
  refine ⟨?_, rfl⟩
  unfold Ks.doc
  rw [num32_le32 (by omega) (by omega)]
end Go.Proofs.YtdnfnobgeddbfaaDoor.Abs

/- What the reference's small functions compute: plain texts, digits, kinds, numbers, heads. -/
namespace Go.Proofs.YtdnfnobgeddbfaaDoor.Abs
set_option linter.all false
open Go.Proofs
set_option linter.unusedVariables false
set_option linter.unusedSimpArgs false
set_option maxRecDepth 100000
set_option maxHeartbeats 4000000

theorem l_DocPlain : ∀ (rest pre : List UInt8) (st : St), st.s 0 = .str (pre ++ rest) → st.s 3 = .int .i64 pre.length → (pre ++ rest).length ≤ maxLen → ∀ Q : Ex × St → Prop,
    (plainL rest = true → ∀ st' : St, st'.h = st.h → Q (.exit 0, st')) → (plainL rest = false → ∀ st' : St, st'.h = st.h → st'.s 2 = .bool false → Q (.ret, st')) → LoopR fns lc13_0 st Q
  | [], pre, st, h0, h3, hl, Q, hA, hB => by
    refine loopω_run fns ?_
    simp [h0, h3]
    exact hA rfl _ rfl
  | c :: rest, pre, st, h0, h3, hl, Q, hA, hB => by
    refine loopω_run fns ?_
    have hd : (pre.length : Int) < pre.length + (rest.length + 1) := by omega
    by_cases hc : c = 0
    · simp [h0, h3, hc, hd]
      exact hB (by simp [hc, plainL]) _ rfl rfl
    · have hc' : ¬ c.toNat = 0 := fun e => hc (UInt8.toNat_inj.1 e)
      have hw : IntKind.i64.wrap ((pre.length : Int) + 1) = pre.length + 1 := wrap_i64 (by omega) (by simp [maxLen] at hl; omega)
      simp [h0, h3, hc', hw, hd]
      refine l_DocPlain rest (pre ++ [c]) _ ?_ ?_ ?_ Q ?_ ?_
      · simp [h0]
      · simp
      · simpa using hl
      · exact fun h => hA (by simp [hc, h, plainL])
      · exact fun h => hB (by simp [hc, h, plainL])
theorem c_DocPlain (s : List UInt8) (hl : s.length ≤ maxLen) : ∀ hE : H, callω fns 13 [.str s] hE = some (.bool (plainL s), hE) := by
  intro hE
  refine run13 (Nat.le_of_ble_eq_true rfl) ?_
  simp 
  refine l_DocPlain s [] _ ?_ ?_ hl _ (fun h st' e => ?_) (fun h st' e h2 => ?_)
  · simp
  · simp
  · simp [h, e]
  · simp [h, e, h2]

theorem digL_length : ∀ m n : Nat, n ≤ m → (digL n).length ≤ n + 1 := by
  intro m
  induction m with
  | zero => intro n hn; obtain rfl : n = 0 := (by omega); rw [digL]; simp
  | succ m ih =>
    intro n hn; rw [digL]
    by_cases h : n < 10
    · rw [if_pos h]; simp
    · rw [if_neg h]; simp; have := ih (n / 10) (by omega); omega
theorem dig_byte {k : Nat} (hk : k < 10) : UInt8.ofNat (IntKind.u8.wrap (IntKind.i64.wrap (48 + (k : Int)))).toNat = UInt8.ofNat (48 + k) := by
  have h1 : IntKind.u8.wrap (48 + (k : Int)) = ((48 + k : Nat) : Int) := by
    simp [IntKind.wrap, IntKind.signed, IntKind.bits]; omega
  rw [wrap_i64 (by omega) (by omega), h1, Int.toNat_natCast]
theorem c_DocDigits : ∀ (m n : Nat), n ≤ m → n ≤ 4611686018427387904 → ∀ hE : H, callω fns 66 [.int .i64 n] hE = some (.str (digL n), hE) := by
  intro m
  induction m with
  | zero =>
    intro n h1 h2
    obtain rfl : n = 0 := by omega
    intro hE
    refine run66 (Nat.le_of_ble_eq_true rfl) ?_
    simp [cvBS, bytesOf, IntKind.wrap, IntKind.signed, IntKind.bits, digL]
  | succ m ih =>
    intro n h1 h2
    intro hE
    refine run66 (Nat.le_of_ble_eq_true rfl) ?_
    by_cases h : n < 10
    · have h' : (n : Int) < 10 := by omega
      have hb := dig_byte h
      rw [digL, if_pos h]
      skip
      simp [cvBS, bytesOf, h', -UInt8.ofNat_add]
      exact hb
    · have h' : ¬ (n : Int) < 10 := by omega
      have hq : (n : Int).tdiv 10 = ((n / 10 : Nat) : Int) := by simp [Int.tdiv]
      have hr : (n : Int).tmod 10 = ((n % 10 : Nat) : Int) := by simp [Int.tmod]
      have hw : IntKind.i64.wrap ((n / 10 : Nat) : Int) = ((n / 10 : Nat) : Int) := wrap_i64 (by omega) (by omega)
      have hb := dig_byte (Nat.mod_lt n (show 10 > 0 by omega))
      have hl := digL_length (n / 10) (n / 10) (Nat.le_refl _)
      have hc := ih (n / 10) (by omega) (by omega)
      have hm : (digL (n / 10)).length + 1 ≤ maxLen := by simp only [maxLen]; omega
      rw [digL, if_neg h]
      skip
      simp only [← hb]
      simp [cvBS, bytesOf, h', hq, hr, hw, hc, hm, -UInt8.ofNat_add, -Int.natCast_ediv, -Int.natCast_emod]

theorem c_DocKnown (k : Int) : ∀ hE : H, callω fns 64 [.int .i64 k] hE = some (.bool (knownK k), hE) := by
  intro hE
  refine run64 (Nat.le_of_ble_eq_true rfl) ?_
  by_cases h1 : 1 ≤ k <;> by_cases h2 : k ≤ 19 <;> by_cases h3 : k = 255 <;> by_cases h4 : k = 127 <;>
  simp [knownK, h1, h2, h3, h4]

theorem c_DocInt32 (b : BS) (n : Int) (h : b.l.length ≤ 1073741824) : ∀ hE : H, callω fns 51 [b.av 5, .int .i64 n] hE = some ((b.app (le32 n)).av 5, hE) := by
  intro hE
  refine run51 (Nat.le_of_ble_eq_true rfl) ?_
  have h8 : n.fdiv 256 = n / 256 := shr_i64 n 8
  have h16 : n.fdiv 65536 = n / 65536 := shr_i64 n 16
  have h24 : n.fdiv 16777216 = n / 16777216 := shr_i64 n 24
  have hap : ∀ hp : H, apV hp 5 1 1 false (b.av 5) (.slice (.own true) 5 1 [.int .u8 ((byteOf n).toNat : Int), .int .u8 ((byteOf (n / 256)).toNat : Int), .int .u8 ((byteOf (n / 65536)).toNat : Int), .int .u8 ((byteOf (n / 16777216)).toNat : Int)]) = some ((b.app (le32 n)).av 5) := fun hp => apV_l4 (by simp only [tooLong]; omega)
  simp [aShift, IntKind.bits, u8_wrap, hap, h8, h16, h24]

theorem l_DocInt64 {st : St} {b : BS} {n : Int} {k : Nat} {Q : Ex × St → Prop} (h0 : st.s 0 = b.av 5) (h1 : st.s 1 = .int .u64 n) (h5 : st.s 5 = .int .i64 k) (hk : k < 64) (hb : b.l.length ≤ 1073741900)
    (h : ∀ st' : St, st'.h = st.h → st'.s 0 = (b.app [byteOf (n / 2 ^ k)]).av 5 → st'.s 1 = .int .u64 n → st'.s 5 = .int .i64 ((k + 8 : Nat) : Int) → LoopR fns lc49_0 st' Q) : LoopR fns lc49_0 st Q := by
  refine loopω_run fns ?_
  have hd : (k : Int) < 64 := by omega
  have hm : min k 64 = k := by omega
  have hw : IntKind.i64.wrap ((k : Int) + 8) = k + 8 := wrap_i64 (by omega) (by omega)
  have hn : ¬ ((k : Int) < 0) := by omega
  have hap : ∀ hp : H, apV hp 5 1 1 false (b.av 5) (.slice (.own true) 5 1 [.int .u8 ((byteOf (n / 2 ^ k)).toNat : Int)]) = some ((b.app [byteOf (n / 2 ^ k)]).av 5) := fun hp => apV_l1 (by simp only [tooLong]; omega)
  simp [h0, h1, h5, hd, aShift, hn, IntKind.bits, hm, shr_i64, u8_wrap, hap, hw]
  refine h _ rfl ?_ ?_ ?_ <;> simp [h1]
theorem c_DocInt64 (b : BS) (n : Int) (h : b.l.length ≤ 1073741824) : ∀ hE : H, callω fns 49 [b.av 5, .int .u64 n] hE = some ((b.app (le64 n)).av 5, hE) := by
  intro hE
  refine run49 (Nat.le_of_ble_eq_true rfl) ?_
  simp 
  refine l_DocInt64 (b := b) (n := n) (k := 0) (by simp) (by simp) (by simp) (by omega) (by omega) fun s1 z1 a1 b1 c1 => ?_
  refine l_DocInt64 a1 b1 c1 (by omega) (by simp [BS.l_app]; omega) fun s2 z2 a1 b1 c1 => ?_
  refine l_DocInt64 a1 b1 c1 (by omega) (by simp [BS.l_app]; omega) fun s3 z3 a1 b1 c1 => ?_
  refine l_DocInt64 a1 b1 c1 (by omega) (by simp [BS.l_app]; omega) fun s4 z4 a1 b1 c1 => ?_
  refine l_DocInt64 a1 b1 c1 (by omega) (by simp [BS.l_app]; omega) fun s5 z5 a1 b1 c1 => ?_
  refine l_DocInt64 a1 b1 c1 (by omega) (by simp [BS.l_app]; omega) fun s6 z6 a1 b1 c1 => ?_
  refine l_DocInt64 a1 b1 c1 (by omega) (by simp [BS.l_app]; omega) fun s7 z7 a1 b1 c1 => ?_
  refine l_DocInt64 a1 b1 c1 (by omega) (by simp [BS.l_app]; omega) fun s8 z8 a1 b1 c1 => ?_
  refine loopω_run fns ?_
  simp [c1, a1, BS.app_app, le64, z8, z7, z6, z5, z4, z3, z2, z1]

theorem c_docText (b : BS) (s : List UInt8) (h : b.l.length + s.length ≤ 1073741000) : ∀ hE : H, callω fns 50 [b.av 5, .str s] hE = some ((b.app (txtL s)).av 5, hE) := by
  intro hE
  refine run50 (Nat.le_of_ble_eq_true rfl) ?_
  have hw : IntKind.i64.wrap ((s.length : Int) + 1) = s.length + 1 := wrap_i64 (by omega) (by omega)
  simp (disch := first | (((try simp only [BS.l_app, BS.sh_l, BS.l_mk, List.length_append, List.length_cons, List.length_nil, le32_length, le64_length, txtL_length, hdL_length, tooLong]) <;> omega); done) | fail) [hw, c_DocInt32, apV_str, apV_l0, BS.app_app, txtL]

theorem c_DocHead (k : Int) (s : List UInt8) (h : s.length ≤ 1073741000) : ∀ hE : H, callω fns 26 [.int .i64 k, .str s] hE = some ((BS.mk (hdL k s)).av 5, hE) := by
  intro hE
  refine run26 (Nat.le_of_ble_eq_true rfl) ?_
  have h1 : ∀ c : UInt8, AV.slice (.own true) 5 1 [.int .u8 (c.toNat : Int)] = (BS.mk [c]).av 5 := fun _ => rfl
  simp (disch := first | (((try simp only [BS.l_app, BS.sh_l, BS.l_mk, List.length_append, List.length_cons, List.length_nil, le32_length, le64_length, txtL_length, hdL_length, tooLong]) <;> omega); done) | fail) [u8_wrap, h1, apV_str, apV_l0, BS.mk_app, hdL]
end Go.Proofs.YtdnfnobgeddbfaaDoor.Abs
