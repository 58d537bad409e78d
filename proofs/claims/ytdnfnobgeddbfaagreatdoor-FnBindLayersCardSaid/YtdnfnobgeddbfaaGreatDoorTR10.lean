/- TR8, TR9, TR10 -/
import Derived.Test.YtdnfnobgeddbfaaGreatDoorTR7
/- Right documents' bytes: what is read of them. -/
namespace Go.Proofs.YtdnfnobgeddbfaaGreatDoor.Abs
set_option linter.all false

theorem num32_le32 {m : Int} {r : List UInt8} (h0 : -2147483648 ≤ m) (h1 : m < 2147483648) : num32 (le32 m ++ r) = m := by
  show rd32 _ _ _ _ = m
  exact rd32_le32 h0 h1
theorem lenD_le32 {m d : Int} {r : List UInt8} (h0 : 0 ≤ m) (hd : 0 ≤ d) (h1 : m + d < 2147483648) : lenD d (le32 m ++ r) = some (m + d).toNat := by
  unfold lenD
  rw [num32_le32 (by omega) (by omega), if_pos ⟨by simp [le32_length], h0, h1⟩]
theorem knownK_cases {k : Int} (h : knownK k = true) : k = 1 ∨ k = 2 ∨ k = 3 ∨ k = 4 ∨ k = 5 ∨ k = 6 ∨ k = 7 ∨ k = 8 ∨ k = 9 ∨ k = 10 ∨ k = 11 ∨ k = 12 ∨ k = 13 ∨ k = 14 ∨ k = 15 ∨ k = 16 ∨ k = 17 ∨ k = 18 ∨ k = 19 ∨ k = 127 ∨ k = 255 := by
  simp [knownK] at h; omega
theorem kind_range {v : Tr} {d : Nat} (h : v.right d = true) : 0 ≤ v.kind ∧ v.kind < 256 := by
  cases v with
  | mk k t m n bi hi bb kn ks =>
  simp only [Tr.right, Bool.and_eq_true] at h
  have := knownK_cases h.1
  simp only [Tr.kind]; omega
theorem rxLen_regex {t m r : List UInt8} (ht : plainL t = true) (hm : plainL m = true) : rxLen (t ++ (0 :: (m ++ [0])) ++ r) = some (t.length + m.length + 2) := by
  unfold rxLen
  rw [List.append_assoc, List.cons_append, nul_plain ht]
  have e : (t ++ 0 :: ((m ++ [0]) ++ r)).drop (t.length + 1) = m ++ 0 :: r := by
    rw [List.drop_append]
    simp
  simp only [Option.bind_some, e, nul_plain hm, Option.map_some]
  congr 1; omega
theorem vLen_val (v : Tr) {dd : Nat} (hR : v.right dd = true) (hs : v.sz ≤ 1000000000) (r : List UInt8) : vLen v.kind (v.val ++ r) = some v.val.length := by
  cases v with
  | mk k t m n bi hi bb kn ks =>
  simp only [Tr.right, Bool.and_eq_true] at hR
  obtain ⟨hk, hd, hbare, hR⟩ := hR
  have hb := Ks.body_le ks
  simp only [Tr.sz, Tr.nb, Tr.nodes] at hs
  have htl := txtL_length t
  simp only [Tr.kind]
  have txt : ∀ r : List UInt8, txtL t ++ r = le32 (t.length + 1) ++ (t ++ [0] ++ r) := fun r => by simp [txtL]
  have nat : ∀ {a : Int} {b : Nat}, a = b → some a.toNat = some b := fun h => by rw [h]; rfl
  rcases knownK_cases hk with rfl | rfl | rfl | rfl | rfl | rfl | rfl | rfl | rfl | rfl | rfl | rfl | rfl | rfl | rfl | rfl | rfl | rfl | rfl | rfl | rfl
  · rfl
  · have hv : (Tr.mk 2 t m n bi hi bb kn ks).val = txtL t := by simp [Tr.val]
    rw [hv]; show lenD 4 _ = _
    rw [txt, lenD_le32 (by omega) (by omega) (by omega)]; exact nat (by rw [htl]; omega)
  · have hv : (Tr.mk 3 t m n bi hi bb kn ks).val = le32 ((ks.body.length : Int) + 5) ++ (ks.body ++ [0]) := by simp [Tr.val]
    rw [hv]; show lenD 0 _ = _
    rw [List.append_assoc, lenD_le32 (by omega) (by omega) (by omega)]; exact nat (by simp [le32_length]; omega)
  · have hv : (Tr.mk 4 t m n bi hi bb kn ks).val = le32 ((ks.body.length : Int) + 5) ++ (ks.body ++ [0]) := by simp [Tr.val]
    rw [hv]; show lenD 0 _ = _
    rw [List.append_assoc, lenD_le32 (by omega) (by omega) (by omega)]; exact nat (by simp [le32_length]; omega)
  · by_cases n2 : n = 2
    · subst n2
      have hv : (Tr.mk 5 t m 2 bi hi bb kn ks).val = le32 (((bl bb).length : Int) + 4) ++ (2 :: (le32 (bl bb).length ++ bl bb)) := by simp [Tr.val]
      rw [hv]; show lenD 5 _ = _
      rw [List.append_assoc, lenD_le32 (by omega) (by omega) (by omega)]; exact nat (by simp [le32_length]; omega)
    · have hv : (Tr.mk 5 t m n bi hi bb kn ks).val = le32 ((bl bb).length : Int) ++ (byteOf n :: bl bb) := by simp [Tr.val, n2]
      rw [hv]; show lenD 5 _ = _
      rw [List.append_assoc, lenD_le32 (by omega) (by omega) (by omega)]; exact nat (by simp [le32_length]; omega)
  · rfl
  · simp only [Int.reduceEq, if_false, or_self, or_false, if_true, true_or, decide_eq_true_eq] at hR
    have hv : (Tr.mk 7 t m n bi hi bb kn ks).val = bl bb := by simp [Tr.val]
    rw [hv, hR]; rfl
  · rfl
  · rfl
  · rfl
  · simp at hR
    have hv : (Tr.mk 11 t m n bi hi bb kn ks).val = t ++ (0 :: (m ++ [0])) := by simp [Tr.val]
    rw [hv]; show rxLen _ = _
    rw [rxLen_regex hR.1 hR.2]; simp; omega
  · simp at hR
    have hv : (Tr.mk 12 t m n bi hi bb kn ks).val = txtL t ++ bl bb := by simp [Tr.val]
    rw [hv]; show lenD 16 _ = _
    rw [List.append_assoc, txt, lenD_le32 (by omega) (by omega) (by omega)]; exact nat (by rw [List.length_append, htl, hR]; omega)
  · have hv : (Tr.mk 13 t m n bi hi bb kn ks).val = txtL t := by simp [Tr.val]
    rw [hv]; show lenD 4 _ = _
    rw [txt, lenD_le32 (by omega) (by omega) (by omega)]; exact nat (by rw [htl]; omega)
  · have hv : (Tr.mk 14 t m n bi hi bb kn ks).val = txtL t := by simp [Tr.val]
    rw [hv]; show lenD 4 _ = _
    rw [txt, lenD_le32 (by omega) (by omega) (by omega)]; exact nat (by rw [htl]; omega)
  · have hv : (Tr.mk 15 t m n bi hi bb kn ks).val = le32 (4 + (txtL t).length + ((Ks.body ks).length + 5)) ++ (txtL t ++ (le32 ((Ks.body ks).length + 5) ++ (Ks.body ks ++ [0]))) := by simp [Tr.val]
    rw [hv]; show lenD 0 _ = _
    rw [List.append_assoc, lenD_le32 (by omega) (by omega) (by omega)]; exact nat (by simp [le32_length]; omega)
  · rfl
  · rfl
  · rfl
  · rfl
  · rfl
  · rfl
theorem val_four (v : Tr) (hk : v.kind = 3 ∨ v.kind = 4 ∨ v.kind = 15) : 4 ≤ v.val.length := by
  cases v with
  | mk k t m n bi hi bb kn ks =>
  simp only [Tr.kind] at hk
  rcases hk with rfl | rfl | rfl <;> simp [Tr.val, le32_length] <;> omega
theorem vGet_val (v : Tr) {dd : Nat} (hR : v.right dd = true) (hs : v.sz ≤ 1000000000) (r : List UInt8) : vGet v.kind (v.val ++ r) = some v.val.length := by
  simp only [vGet, vLen_val v hR hs r, Option.bind_some, List.length_append]
  rw [if_pos (by omega)]
theorem byteOf_kind {v : Tr} {dd : Nat} (hR : v.right dd = true) : ((byteOf v.kind).toNat : Int) = v.kind := by
  have := kind_range hR
  rw [byteOf_toNat]; omega
theorem elemL_length (nm : List UInt8) (v : Tr) : (elemL nm v).length = nm.length + 2 + v.val.length := by simp [elemL, hdL_length]
theorem elemL_eq (nm : List UInt8) (v : Tr) (r : List UInt8) : elemL nm v ++ r = byteOf v.kind :: (nm ++ 0 :: (v.val ++ r)) := by simp [elemL, hdL]
theorem eGet_elem {nm : List UInt8} {v : Tr} {dd : Nat} (hp : plainL nm = true) (hR : v.right dd = true) (hs : v.sz ≤ 1000000000) (r : List UInt8) : eGet (elemL nm v ++ r) = some (elemL nm v).length := by
  rw [elemL_eq, elemL_length]
  show (nul (nm ++ 0 :: (v.val ++ r))).bind _ = _
  rw [nul_plain hp]
  have e : (nm ++ 0 :: (v.val ++ r)).drop (nm.length + 1) = v.val ++ r := by rw [List.drop_append]; simp
  simp only [Option.bind_some, e, byteOf_kind hR, vLen_val v hR hs r]
  rw [if_pos (by simp; omega)]
theorem eParts_elem {nm : List UInt8} {v : Tr} (hp : plainL nm = true) : eParts (elemL nm v) = some (byteOf v.kind, nm, v.val) := by
  have h := elemL_eq nm v []
  rw [List.append_nil, List.append_nil] at h
  rw [h]
  show (nul (nm ++ 0 :: v.val)).map _ = _
  rw [nul_plain hp]
  simp
theorem eOk_elem {nm : List UInt8} {v : Tr} {dd : Nat} (hp : plainL nm = true) (hR : v.right dd = true) (hs : v.sz ≤ 1000000000) : eOk (elemL nm v) = true := by
  unfold eOk
  rw [eParts_elem hp]
  simp only [byteOf_kind hR]
  have := vGet_val v hR hs []
  rw [List.append_nil] at this
  rw [this]; rfl
theorem kv_elem {nm : List UInt8} {v : Tr} {dd : Nat} (hp : plainL nm = true) (hR : v.right dd = true) : kv (elemL nm v) = (v.kind, v.val) := by
  unfold kv
  rw [eParts_elem hp]
  simp only [byteOf_kind hR]

def Ks.good : Ks → Prop
  | .nil => True
  | .cons nm v r => plainL nm = true ∧ (∃ d, v.right d = true) ∧ Ks.good r
theorem Ks.right_good : ∀ {ks : Ks} {arr : Bool} {i d : Nat}, ks.right arr i d = true → ks.good
  | .nil, _, _, _, _ => trivial
  | .cons nm v r, arr, i, d, h => by
    simp only [Ks.right, Bool.and_eq_true] at h
    exact ⟨h.1, ⟨d, h.2.2.1⟩, Ks.right_good h.2.2.2⟩
theorem Ks.sz_cons (nm : List UInt8) (v : Tr) (r : Ks) : (Ks.cons nm v r).sz = nm.length + v.sz + r.sz := by simp only [Ks.sz, Tr.sz, Ks.nb, Ks.nodes]; omega
theorem elemsR_body : ∀ (ks : Ks) (f : Nat) (e : List UInt8), ks.good → ks.sz ≤ 1000000000 → ks.body.length < f → e.length ≤ 1 →
    elemsR f (ks.body.length + e.length : Nat) (ks.body ++ e) = (ks.elems, true) ∧ elemsT f (ks.body.length + e.length : Nat) (ks.body ++ e) = e ∧
    ∀ k, elemAt f (ks.body.length + e.length : Nat) (ks.body ++ e) k = (match ks.elems[k]? with | some x => (0, x) | none => (2, []))
  | .nil, f + 1, e, _, _, _, he => by
    simp only [Ks.body, List.length_nil, Nat.zero_add, List.nil_append, elemsR, elemsT, elemAt, Ks.elems]
    have : ((e.length : Nat) : Int) ≤ 1 := by omega
    rw [if_pos this, if_pos this]
    refine ⟨rfl, rfl, fun k => ?_⟩
    rw [if_pos this]; rfl
  | .cons nm v r, f + 1, e, hg, hs, hf, he => by
    obtain ⟨hp, ⟨d, hR⟩, hgr⟩ := hg
    rw [Ks.sz_cons] at hs
    have hb : (Ks.cons nm v r).body ++ e = elemL nm v ++ (r.body ++ e) := by simp [Ks.body, elemL, hdL]
    have hbl : (Ks.cons nm v r).body.length = (elemL nm v).length + r.body.length := by simp [Ks.body, elemL, hdL]; omega
    have hel := elemL_length nm v
    have hge := eGet_elem hp hR (by omega) (r.body ++ e)
    have hok := eOk_elem hp hR (by omega : v.sz ≤ 1000000000)
    have hn : ¬ (((Ks.cons nm v r).body.length + e.length : Nat) : Int) ≤ 1 := by omega
    have htk : (elemL nm v ++ (r.body ++ e)).take (elemL nm v).length = elemL nm v := by simp
    have hdr : (elemL nm v ++ (r.body ++ e)).drop (elemL nm v).length = r.body ++ e := by simp
    have hnn : ((((Ks.cons nm v r).body.length + e.length : Nat) : Int) - ((elemL nm v).length : Nat)) = ((r.body.length + e.length : Nat) : Int) := by omega
    obtain ⟨i1, i2, i3⟩ := elemsR_body r f e hgr (by omega) (by omega) he
    simp only [elemsR, elemsT, elemAt, hb]
    rw [if_neg hn, if_neg hn]
    simp only [hge, htk, hdr, hok, if_true, hnn, i1, i2, Ks.elems]
    refine ⟨trivial, trivial, fun k => ?_⟩
    rw [if_neg hn]
    cases k with
    | zero => rfl
    | succ k => simp only [i3]; rfl
  | ks, 0, e, _, _, hf, _ => by omega
theorem doc_num (ks : Ks) (hs : ks.sz ≤ 1000000000) : num32 ks.doc = ks.body.length + 5 ∧ ks.doc.drop 4 = ks.body ++ [0] := by
  have hb := Ks.body_le ks
  simp only [Ks.sz] at hs
  refine ⟨?_, rfl⟩
  unfold Ks.doc
  rw [num32_le32 (by omega) (by omega)]
end Go.Proofs.YtdnfnobgeddbfaaGreatDoor.Abs

/- Documents found valid, whatever their bytes: their elements stand one behind the other. -/
namespace Go.Proofs.YtdnfnobgeddbfaaGreatDoor.Abs
set_option linter.all false

theorem u32_wrap (n : Int) : IntKind.u32.wrap n = n % 4294967296 := by simp [IntKind.wrap, IntKind.signed, IntKind.bits]
theorem ofInt_wrapU32 (n : Int) : BitVec.ofInt 32 (IntKind.u32.wrap n) = BitVec.ofInt 32 n := by
  apply BitVec.eq_of_toInt_eq
  rw [u32_wrap]; simp only [BitVec.toInt_ofInt]
  simp only [Int.bmod]; omega
theorem or_u32 (x : Nat) (c : Nat) (k : Nat) (hx : x < 2 ^ k) (hc : c < 256) (hk : k ≤ 24) :
    orI .u32 (IntKind.u32.wrap (x : Int)) (IntKind.u32.wrap ((c : Int) * 2 ^ k)) = IntKind.u32.wrap ((x : Int) + c * 2 ^ k) := by
  show IntKind.u32.wrap ((BitVec.ofInt 32 (IntKind.u32.wrap (x : Int)) ||| BitVec.ofInt 32 (IntKind.u32.wrap ((c : Int) * 2 ^ k))).toNat : Int) = _
  rw [ofInt_wrapU32, ofInt_wrapU32]
  have e1 : ((c : Int) * 2 ^ k) = ((c <<< k : Nat) : Int) := by rw [Nat.shiftLeft_eq]; simp
  rw [e1]
  simp only [BitVec.ofInt_natCast]
  have e2 : x ||| (c <<< k) = c <<< k + x := by rw [Nat.or_comm, Nat.shiftLeft_add_eq_or_of_lt hx]
  have hk2 : 2 ^ k ≤ 2 ^ 24 := Nat.pow_le_pow_right (by omega) hk
  have h1 : x < 2 ^ 32 := by omega
  have h2 : c <<< k < 2 ^ 32 := by
    rw [Nat.shiftLeft_eq]
    calc c * 2 ^ k ≤ c * 2 ^ 24 := Nat.mul_le_mul_left _ hk2
      _ < 2 ^ 32 := by omega
  rw [BitVec.toNat_or, BitVec.toNat_ofNat, BitVec.toNat_ofNat, Nat.mod_eq_of_lt h1, Nat.mod_eq_of_lt h2, e2]
  congr 1; omega

def eGood (e : List UInt8) : Prop := ∃ t nm d, e = t :: (nm ++ 0 :: d) ∧ eParts e = some (t, nm, d) ∧ vGet t.toNat d = some d.length
theorem take_nul {r : List UInt8} {i : Nat} (h : nul r = some i) : r = r.take i ++ 0 :: r.drop (i + 1) := by
  obtain ⟨h1, h2, _⟩ := nul_lt h
  rw [List.getElem?_eq_getElem h1] at h2
  injection h2 with h2
  have := List.take_append_drop i r
  rw [List.drop_eq_getElem_cons h1, h2] at this
  exact this.symm
theorem eGood_of {l : List UInt8} {m : Nat} (h : eGet l = some m) (hk : eOk (l.take m) = true) : eGood (l.take m) := by
  obtain ⟨t, r, i, n, rfl, hn, hv, rfl, hle, hp⟩ := eParts_take h
  unfold eOk at hk
  simp only [hp] at hk
  cases hg : vGet (t.toNat : Int) ((r.drop (i + 1)).take n) with
  | none => rw [hg] at hk; cases hk
  | some q =>
    have hq := vGet_cut hv (by rw [List.length_drop]; omega) hg
    subst hq
    refine ⟨t, r.take i, (r.drop (i + 1)).take q, ?_, hp, ?_⟩
    · have h1 := take_nul hn
      have h2 : (t :: r).take (i + 2 + q) = t :: (r.take (i + 1 + q)) := by rw [show i + 2 + q = (i + 1 + q) + 1 by omega, List.take_succ_cons]
      rw [h2]
      congr 1
      have h3 : r.take (i + 1 + q) = (r.take i ++ 0 :: r.drop (i + 1)).take (i + 1 + q) := by rw [← h1]
      rw [h3, List.take_append]
      have hl : (r.take i).length = i := by rw [List.length_take]; omega
      rw [hl, List.take_of_length_le (by omega), show i + 1 + q - i = q + 1 by omega, List.take_succ_cons]
    · rw [hg, List.length_take, List.length_drop]; congr 1; omega
theorem elemsR_good : ∀ (f : Nat) (n : Int) (l : List UInt8), ∀ e ∈ (elemsR f n l).1, eGood e
  | 0, n, l, e, h => by simp [elemsR] at h
  | f + 1, n, l, e, h => by
    simp only [elemsR] at h
    split at h
    · simp at h
    · split at h
      · simp at h
      · rename_i m hm
        split at h
        · rename_i hk
          simp only [List.mem_cons] at h
          rcases h with rfl | h
          · exact eGood_of hm hk
          · exact elemsR_good f _ _ e h
        · simp at h
theorem elemsR_split : ∀ (f : Nat) (n : Int) (l : List UInt8), l.length < f → (elemsR f n l).2 = true → l = (elemsR f n l).1.flatten ++ elemsT f n l ∧ n - (elemsR f n l).1.flatten.length ≤ 1
  | 0, n, l, h, _ => by omega
  | f + 1, n, l, h, h2 => by
    simp only [elemsR, elemsT] at h2 ⊢
    by_cases hn : n ≤ 1
    · rw [if_pos hn, if_pos hn]; simp; omega
    · rw [if_neg hn] at h2
      rw [if_neg hn, if_neg hn]
      cases hm : eGet l with
      | none => rw [hm] at h2; simp at h2
      | some m =>
        rw [hm] at h2
        simp only at h2 ⊢
        have hle := eGet_le hm
        split at h2
        · rename_i hk
          obtain ⟨i1, i2⟩ := elemsR_split f (n - m) (l.drop m) (by rw [List.length_drop]; omega) h2
          simp only [hk, if_true, List.flatten_cons, List.append_assoc, List.length_append, List.length_take]
          refine ⟨?_, by omega⟩
          rw [← i1, List.take_append_drop]
        · cases h2
end Go.Proofs.YtdnfnobgeddbfaaGreatDoor.Abs

/- Elements one behind the other, whatever their values say. -/
namespace Go.Proofs.YtdnfnobgeddbfaaGreatDoor.Abs
set_option linter.all false

def partsR : Nat → Int → List UInt8 → List (List UInt8) × Bool
  | 0, _, _ => ([], true)
  | f + 1, n, l => if n ≤ 1 then ([], true) else match eGet l with
    | none => ([], false)
    | some m => (l.take m :: (partsR f (n - m) (l.drop m)).1, (partsR f (n - m) (l.drop m)).2)
def partsT : Nat → Int → List UInt8 → List UInt8
  | 0, _, l => l
  | f + 1, n, l => if n ≤ 1 then l else match eGet l with
    | none => l
    | some m => partsT f (n - m) (l.drop m)
theorem elemsR_parts : ∀ (f : Nat) (n : Int) (l : List UInt8), elemsR f n l = ((partsR f n l).1.takeWhile eOk, (partsR f n l).1.all eOk && (partsR f n l).2)
  | 0, n, l => rfl
  | f + 1, n, l => by
    simp only [elemsR, partsR]
    by_cases hn : n ≤ 1
    · simp [hn]
    · rw [if_neg hn, if_neg hn]
      cases he : eGet l with
      | none => simp
      | some m =>
        simp only
        cases hk : eOk (l.take m) with
        | false => simp [List.takeWhile_cons, hk]
        | true => simp [List.takeWhile_cons, hk, elemsR_parts f (n - m) (l.drop m)]
theorem partsR_ne : ∀ (f : Nat) (n : Int) (l : List UInt8), ∀ e ∈ (partsR f n l).1, ∃ l' m, eGet l' = some m ∧ e = l'.take m ∧ l'.length ≤ l.length
  | 0, n, l, e, h => by simp [partsR] at h
  | f + 1, n, l, e, h => by
    simp only [partsR] at h
    split at h
    · simp at h
    · split at h
      · simp at h
      · rename_i m hm
        simp only [List.mem_cons] at h
        rcases h with rfl | h
        · exact ⟨l, m, hm, rfl, Nat.le_refl _⟩
        · obtain ⟨l', m', h1, h2, h3⟩ := partsR_ne f _ _ e h
          rw [List.length_drop] at h3
          exact ⟨l', m', h1, h2, by omega⟩
theorem partsR_len : ∀ (f : Nat) (n : Int) (l : List UInt8), (partsR f n l).1.flatten.length ≤ l.length ∧ (partsR f n l).1.length ≤ l.length
  | 0, n, l => by simp [partsR]
  | f + 1, n, l => by
    simp only [partsR]
    split
    · simp
    · split
      · simp
      · rename_i m hm
        have := eGet_le hm
        have ih := partsR_len f (n - m) (l.drop m)
        rw [List.length_drop] at ih
        simp only [List.flatten_cons, List.length_append, List.length_take, List.length_cons]
        omega
def nmE (e : List UInt8) : List UInt8 := match eParts e with | some (_, nm, _) => nm | none => []
def partC (eB : Nat) (e : List UInt8) : List AV := [.str (nmE e), .int .i64 (kv e).1, bAV eB (some (kv e).2), bAV eB (some e)]
def partsC (eB : Nat) (es : List (List UInt8)) : List AV := es.flatMap (partC eB)
@[simp] theorem partsC_length (eB : Nat) : ∀ es : List (List UInt8), (partsC eB es).length = es.length * 4
  | [] => rfl
  | e :: es => by
    have := partsC_length eB es
    simp only [partsC] at this
    simp only [partsC, List.flatMap_cons, List.length_append, List.length_cons, this]
    simp [partC]; omega
theorem partsC_cons (eB : Nat) (e : List UInt8) (es : List (List UInt8)) : partsC eB (e :: es) = .str (nmE e) :: .int .i64 (kv e).1 :: bAV eB (some (kv e).2) :: bAV eB (some e) :: partsC eB es := rfl
theorem partsC_append (eB : Nat) (a b : List (List UInt8)) : partsC eB (a ++ b) = partsC eB a ++ partsC eB b := by simp [partsC]
@[simp] theorem old_partsC (b eB : Nat) : ∀ es : List (List UInt8), oldL b (partsC eB es) = true
  | [] => rfl
  | e :: es => by rw [partsC_cons]; simp [old_partsC b eB es]
theorem eOk_kv {l : List UInt8} {m : Nat} (h : eGet l = some m) : eOk (l.take m) = (vGet (kv (l.take m)).1 (kv (l.take m)).2).isSome := by
  obtain ⟨t, r, i, n, rfl, hn, hv, rfl, hle, hp⟩ := eParts_take h
  unfold eOk kv
  rw [hp]
end Go.Proofs.YtdnfnobgeddbfaaGreatDoor.Abs
