/- EB6, TR8, EB9, EB10, EB11 -/
import Derived.Test.YtcodfehgnjplcaaGreatDoorEB5
import Derived.Test.YtcodfehgnjplcaaGreatDoorEB2
/- Sentinels; the codes of errors; what is copied. -/
namespace Go.Proofs.YtcodfehgnjplcaaGreatDoor.Abs
set_option linter.all false
open Go.Proofs
set_option linter.unusedVariables false
set_option linter.unusedSimpArgs false
set_option maxRecDepth 100000
set_option maxHeartbeats 8000000

/-! ### Sentinels -/
def sE (p : Nat × Nat) : AV := .iface 298 (.sen p.1 p.2)
structure Sens (Γ : Nat → Option (List AV)) (s : Nat → Nat × Nat) : Prop where
  g0 : Γ 0 = some [sE (s 0)]
  g1 : Γ 1 = some [sE (s 1)]
  g2 : Γ 2 = some [sE (s 2)]
  g3 : Γ 3 = some [sE (s 3)]
  ne : ∀ i j, i < 4 → j < 4 → i ≠ j → s i ≠ s j
theorem c_Is (a b : Nat × Nat) (hE : H) : callω fns 165 [sE a, sE b] hE = some (.bool (decide (a = b)), hE) := by
  refine callω_x fns (af := af165) rfl (Nat.le_of_ble_eq_true rfl) ?_
  show isX [sE a, sE b] hE = _
  obtain ⟨a1, a2⟩ := a
  obtain ⟨b1, b2⟩ := b
  simp only [isX, sE, and_self, if_true, Prod.mk.injEq]
  congr 2
  by_cases h1 : a1 = b1 <;> by_cases h2 : a2 = b2 <;> simp [h1, h2]
def senC (i : Nat) : Int := if i = 0 then 7 else if i = 1 then 7 else if i = 2 then 8 else 11
theorem c_code_sen {s : Nat → Nat × Nat} {i : Nat} (hi : i < 4) {hE : H} (hS : Sens hE.Γ s) : callω fns 65 [sE (s i)] hE = some (.int .i64 (senC i), hE) := by
  obtain ⟨g0, g1, g2, g3, ne⟩ := hS
  refine run65 (Nat.le_of_ble_eq_true rfl) ?_
  have hI := c_Is
  have q : ∀ j, j < 4 → (decide (s i = s j)) = decide (i = j) := fun j hj => by
    by_cases h : i = j
    · subst h; simp
    · simp [h, ne i j hi hj h]
  have q0 := q 0 (by omega); have q1 := q 1 (by omega); have q2 := q 2 (by omega); have q3 := q 3 (by omega)
  have e : ∀ p, sE p = .iface 298 (.sen p.1 p.2) := fun _ => rfl
  simp only [e] at hI g0 g1 g2 g3 ⊢
  rcases (by omega : i = 0 ∨ i = 1 ∨ i = 2 ∨ i = 3) with rfl | rfl | rfl | rfl <;>
    simp only [Nat.reduceEqDiff, decide_true, decide_false] at q0 q1 q2 q3 <;>
    simp [taOk, exV, g0, g1, g2, g3, glV, hI, q0, q1, q2, q3, senC]
theorem c_code_nil : ∀ hE : H, callω fns 65 [.nilI] hE = some (.int .i64 0, hE) := c_code .nil
theorem c_code_few (a b) : ∀ hE : H, callω fns 65 [xFew a b] hE = some (.int .i64 1, hE) := c_code (.few a b)
theorem c_code_V (s : List UInt8) : ∀ hE : H, callω fns 65 [xVE s] hE = some (.int .i64 (if s = sLen then 2 else if s = sNull then 3 else 4), hE) := by
  intro hE
  refine run65 (Nat.le_of_ble_eq_true rfl) ?_
  by_cases h1 : s = sLen
  · simp [xVE, h1, taOk, exV, sLen]
  by_cases h2 : s = sNull
  · simp [xVE, h1, h2, taOk, exV, sLen, sNull]
  have h1' : (s == sLen) = false := by simpa using h1
  have h2' : (s == sNull) = false := by simpa using h2
  simp only [sLen] at h1 h1'
  simp only [sNull] at h2 h2'
  simp [xVE, h1, h2, h1', h2', taOk, exV, sLen, sNull]

def docC (l : List UInt8) : Int :=
  if okL l = false then 1 else if (l.length : Int) < num32 l then 4 else if num32 l < 5 then 2 else if (l[(num32 l - 1).toNat]?) ≠ some 0 then 3
  else if (dR l).2 = false then 1 else match elemsT (l.length + 1) (num32 l - 4) (l.drop 4) with | [] => 3 | c :: _ => if c = 0 then 0 else 3
theorem c_code_doc (l : List UInt8) : ∀ hE : H, callω fns 65 [docX l] hE = some (.int .i64 (docC l), hE) := by
  intro hE
  unfold docX docC
  split
  · exact c_code_few _ _ hE
  split
  · rw [c_code_V]; rfl
  split
  · rw [c_code_V]; rfl
  split
  · rw [c_code_V]; rfl
  split
  · exact c_code_few _ _ hE
  cases elemsT (l.length + 1) (num32 l - 4) (l.drop 4) with
  | nil => simp only [endX]; rw [c_code_V]; rfl
  | cons c r =>
    simp only [endX]
    split
    · exact c_code_nil hE
    · rw [c_code_V]; rfl
theorem docX_cases (l : List UInt8) : docX l = .nilI ∨ (∃ a b, docX l = xFew a b) ∨ ∃ s, docX l = xVE s := by
  unfold docX
  split
  · exact .inr (.inl ⟨_, _, rfl⟩)
  split
  · exact .inr (.inr ⟨_, rfl⟩)
  split
  · exact .inr (.inr ⟨_, rfl⟩)
  split
  · exact .inr (.inr ⟨_, rfl⟩)
  split
  · exact .inr (.inl ⟨_, _, rfl⟩)
  cases elemsT (l.length + 1) (num32 l - 4) (l.drop 4) with
  | nil => exact .inr (.inr ⟨_, rfl⟩)
  | cons c r =>
    simp only [endX]
    split
    · exact .inl rfl
    · exact .inr (.inr ⟨_, rfl⟩)
theorem c_own (o : Option (List UInt8)) (h : (bl o).length < 2147483648) : ∀ hE : H, callω fns 55 [bAV 5 o] hE = some ((BS.mk (bl o)).av 5, hE) := by
  intro hE
  have ha : ∀ hp : H, apV hp 5 1 1 false (.slice .nil 0 1 []) (bAV 5 o) = some ((BS.mk (bl o)).av 5) := fun hp => by
    have := apV_b (hp := hp) (e := 5) (b := BS.nil) (o := o) (by simp only [BS.l, List.length_nil, tooLong]; omega)
    rw [BS.nil_app] at this; exact this
  refine run55 (Nat.le_of_ble_eq_true rfl) ?_
  simp [ha]

end Go.Proofs.YtcodfehgnjplcaaGreatDoor.Abs

/- Right documents' bytes: what is read of them. -/
namespace Go.Proofs.YtcodfehgnjplcaaGreatDoor.Abs
set_option linter.all false

theorem num32_le32 {m : Int} {r : List UInt8} (h0 : -2147483648 ≤ m) (h1 : m < 2147483648) : num32 (le32 m ++ r) = m := by
  show rd32 _ _ _ _ = m
  exact rd32_le32 h0 h1
theorem lenD_le32 {m d : Int} {r : List UInt8} (h0 : 0 ≤ m) (hd : 0 ≤ d) (h1 : m + d < 2147483648) : lenD d (le32 m ++ r) = some (m + d).toNat := by
  unfold lenD
  rw [num32_le32 (by omega) (by omega), if_pos ⟨by simp [le32_length], h0, h1⟩]
theorem knownK_cases {k : Int} (h : knownK k = true) : k = 1 ∨ k = 2 ∨ k = 3 ∨ k = 4 ∨ k = 5 ∨ k = 6 ∨ k = 7 ∨ k = 8 ∨ k = 9 ∨ k = 10 ∨ k = 11 ∨ k = 12 ∨ k = 13 ∨ k = 14 ∨ k = 15 ∨ k = 16 ∨ k = 17 ∨ k = 18 ∨ k = 19 ∨ k = 127 ∨ k = 255 := by
  simp [knownK] at h; omega
theorem kind_range {v : Tr} {d : Nat} (h : v.right d = true) : 0 ≤ v.kind ∧ v.kind < 256 := by
  cases v with
  | mk k t m n bi hi bb kn ks =>
  simp only [Tr.right, Bool.and_eq_true] at h
  have := knownK_cases h.1
  simp only [Tr.kind]; omega
theorem rxLen_regex {t m r : List UInt8} (ht : plainL t = true) (hm : plainL m = true) : rxLen (t ++ (0 :: (m ++ [0])) ++ r) = some (t.length + m.length + 2) := by
  unfold rxLen
  rw [List.append_assoc, List.cons_append, nul_plain ht]
  have e : (t ++ 0 :: ((m ++ [0]) ++ r)).drop (t.length + 1) = m ++ 0 :: r := by
    rw [List.drop_append]
    simp
  simp only [Option.bind_some, e, nul_plain hm, Option.map_some]
  congr 1; omega
theorem vLen_val (v : Tr) {dd : Nat} (hR : v.right dd = true) (hs : v.sz ≤ 1000000000) (r : List UInt8) : vLen v.kind (v.val ++ r) = some v.val.length := by
  cases v with
  | mk k t m n bi hi bb kn ks =>
  simp only [Tr.right, Bool.and_eq_true] at hR
  obtain ⟨hk, hd, hbare, hR⟩ := hR
  have hb := Ks.body_le ks
  simp only [Tr.sz, Tr.nb, Tr.nodes] at hs
  have htl := txtL_length t
  simp only [Tr.kind]
  have txt : ∀ r : List UInt8, txtL t ++ r = le32 (t.length + 1) ++ (t ++ [0] ++ r) := fun r => by simp [txtL]
  have nat : ∀ {a : Int} {b : Nat}, a = b → some a.toNat = some b := fun h => by rw [h]; rfl
  rcases knownK_cases hk with rfl | rfl | rfl | rfl | rfl | rfl | rfl | rfl | rfl | rfl | rfl | rfl | rfl | rfl | rfl | rfl | rfl | rfl | rfl | rfl | rfl
  · rfl
  · have hv : (Tr.mk 2 t m n bi hi bb kn ks).val = txtL t := by simp [Tr.val]
    rw [hv]; show lenD 4 _ = _
    rw [txt, lenD_le32 (by omega) (by omega) (by omega)]; exact nat (by rw [htl]; omega)
  · have hv : (Tr.mk 3 t m n bi hi bb kn ks).val = le32 ((ks.body.length : Int) + 5) ++ (ks.body ++ [0]) := by simp [Tr.val]
    rw [hv]; show lenD 0 _ = _
    rw [List.append_assoc, lenD_le32 (by omega) (by omega) (by omega)]; exact nat (by simp [le32_length]; omega)
  · have hv : (Tr.mk 4 t m n bi hi bb kn ks).val = le32 ((ks.body.length : Int) + 5) ++ (ks.body ++ [0]) := by simp [Tr.val]
    rw [hv]; show lenD 0 _ = _
    rw [List.append_assoc, lenD_le32 (by omega) (by omega) (by omega)]; exact nat (by simp [le32_length]; omega)
  · by_cases n2 : n = 2
    · subst n2
      have hv : (Tr.mk 5 t m 2 bi hi bb kn ks).val = le32 (((bl bb).length : Int) + 4) ++ (2 :: (le32 (bl bb).length ++ bl bb)) := by simp [Tr.val]
      rw [hv]; show lenD 5 _ = _
      rw [List.append_assoc, lenD_le32 (by omega) (by omega) (by omega)]; exact nat (by simp [le32_length]; omega)
    · have hv : (Tr.mk 5 t m n bi hi bb kn ks).val = le32 ((bl bb).length : Int) ++ (byteOf n :: bl bb) := by simp [Tr.val, n2]
      rw [hv]; show lenD 5 _ = _
      rw [List.append_assoc, lenD_le32 (by omega) (by omega) (by omega)]; exact nat (by simp [le32_length]; omega)
  · rfl
  · simp only [Int.reduceEq, if_false, or_self, or_false, if_true, true_or, decide_eq_true_eq] at hR
    have hv : (Tr.mk 7 t m n bi hi bb kn ks).val = bl bb := by simp [Tr.val]
    rw [hv, hR]; rfl
  · rfl
  · rfl
  · rfl
  · simp at hR
    have hv : (Tr.mk 11 t m n bi hi bb kn ks).val = t ++ (0 :: (m ++ [0])) := by simp [Tr.val]
    rw [hv]; show rxLen _ = _
    rw [rxLen_regex hR.1 hR.2]; simp; omega
  · simp at hR
    have hv : (Tr.mk 12 t m n bi hi bb kn ks).val = txtL t ++ bl bb := by simp [Tr.val]
    rw [hv]; show lenD 16 _ = _
    rw [List.append_assoc, txt, lenD_le32 (by omega) (by omega) (by omega)]; exact nat (by rw [List.length_append, htl, hR]; omega)
  · have hv : (Tr.mk 13 t m n bi hi bb kn ks).val = txtL t := by simp [Tr.val]
    rw [hv]; show lenD 4 _ = _
    rw [txt, lenD_le32 (by omega) (by omega) (by omega)]; exact nat (by rw [htl]; omega)
  · have hv : (Tr.mk 14 t m n bi hi bb kn ks).val = txtL t := by simp [Tr.val]
    rw [hv]; show lenD 4 _ = _
    rw [txt, lenD_le32 (by omega) (by omega) (by omega)]; exact nat (by rw [htl]; omega)
  · have hv : (Tr.mk 15 t m n bi hi bb kn ks).val = le32 (4 + (txtL t).length + ((Ks.body ks).length + 5)) ++ (txtL t ++ (le32 ((Ks.body ks).length + 5) ++ (Ks.body ks ++ [0]))) := by simp [Tr.val]
    rw [hv]; show lenD 0 _ = _
    rw [List.append_assoc, lenD_le32 (by omega) (by omega) (by omega)]; exact nat (by simp [le32_length]; omega)
  · rfl
  · rfl
  · rfl
  · rfl
  · rfl
  · rfl
theorem val_four (v : Tr) (hk : v.kind = 3 ∨ v.kind = 4 ∨ v.kind = 15) : 4 ≤ v.val.length := by
  cases v with
  | mk k t m n bi hi bb kn ks =>
  simp only [Tr.kind] at hk
  rcases hk with rfl | rfl | rfl <;> simp [Tr.val, le32_length] <;> omega
theorem vGet_val (v : Tr) {dd : Nat} (hR : v.right dd = true) (hs : v.sz ≤ 1000000000) (r : List UInt8) : vGet v.kind (v.val ++ r) = some v.val.length := by
  simp only [vGet, vLen_val v hR hs r, Option.bind_some, List.length_append]
  rw [if_pos (by omega)]
theorem byteOf_kind {v : Tr} {dd : Nat} (hR : v.right dd = true) : ((byteOf v.kind).toNat : Int) = v.kind := by
  have := kind_range hR
  rw [byteOf_toNat]; omega
theorem elemL_length (nm : List UInt8) (v : Tr) : (elemL nm v).length = nm.length + 2 + v.val.length := by simp [elemL, hdL_length]
theorem elemL_eq (nm : List UInt8) (v : Tr) (r : List UInt8) : elemL nm v ++ r = byteOf v.kind :: (nm ++ 0 :: (v.val ++ r)) := by simp [elemL, hdL]
theorem eGet_elem {nm : List UInt8} {v : Tr} {dd : Nat} (hp : plainL nm = true) (hR : v.right dd = true) (hs : v.sz ≤ 1000000000) (r : List UInt8) : eGet (elemL nm v ++ r) = some (elemL nm v).length := by
  rw [elemL_eq, elemL_length]
  show (nul (nm ++ 0 :: (v.val ++ r))).bind _ = _
  rw [nul_plain hp]
  have e : (nm ++ 0 :: (v.val ++ r)).drop (nm.length + 1) = v.val ++ r := by rw [List.drop_append]; simp
  simp only [Option.bind_some, e, byteOf_kind hR, vLen_val v hR hs r]
  rw [if_pos (by simp; omega)]
theorem eParts_elem {nm : List UInt8} {v : Tr} (hp : plainL nm = true) : eParts (elemL nm v) = some (byteOf v.kind, nm, v.val) := by
  have h := elemL_eq nm v []
  rw [List.append_nil, List.append_nil] at h
  rw [h]
  show (nul (nm ++ 0 :: v.val)).map _ = _
  rw [nul_plain hp]
  simp
theorem eOk_elem {nm : List UInt8} {v : Tr} {dd : Nat} (hp : plainL nm = true) (hR : v.right dd = true) (hs : v.sz ≤ 1000000000) : eOk (elemL nm v) = true := by
  unfold eOk
  rw [eParts_elem hp]
  simp only [byteOf_kind hR]
  have := vGet_val v hR hs []
  rw [List.append_nil] at this
  rw [this]; rfl
theorem kv_elem {nm : List UInt8} {v : Tr} {dd : Nat} (hp : plainL nm = true) (hR : v.right dd = true) : kv (elemL nm v) = (v.kind, v.val) := by
  unfold kv
  rw [eParts_elem hp]
  simp only [byteOf_kind hR]

def Ks.good : Ks → Prop
  | .nil => True
  | .cons nm v r => plainL nm = true ∧ (∃ d, v.right d = true) ∧ Ks.good r
theorem Ks.right_good : ∀ {ks : Ks} {arr : Bool} {i d : Nat}, ks.right arr i d = true → ks.good
  | .nil, _, _, _, _ => trivial
  | .cons nm v r, arr, i, d, h => by
    simp only [Ks.right, Bool.and_eq_true] at h
    exact ⟨h.1, ⟨d, h.2.2.1⟩, Ks.right_good h.2.2.2⟩
theorem Ks.sz_cons (nm : List UInt8) (v : Tr) (r : Ks) : (Ks.cons nm v r).sz = nm.length + v.sz + r.sz := by simp only [Ks.sz, Tr.sz, Ks.nb, Ks.nodes]; omega
theorem elemsR_body : ∀ (ks : Ks) (f : Nat) (e : List UInt8), ks.good → ks.sz ≤ 1000000000 → ks.body.length < f → e.length ≤ 1 →
    elemsR f (ks.body.length + e.length : Nat) (ks.body ++ e) = (ks.elems, true) ∧ elemsT f (ks.body.length + e.length : Nat) (ks.body ++ e) = e ∧
    ∀ k, elemAt f (ks.body.length + e.length : Nat) (ks.body ++ e) k = (match ks.elems[k]? with | some x => (0, x) | none => (2, []))
  | .nil, f + 1, e, _, _, _, he => by
    simp only [Ks.body, List.length_nil, Nat.zero_add, List.nil_append, elemsR, elemsT, elemAt, Ks.elems]
    have : ((e.length : Nat) : Int) ≤ 1 := by omega
    rw [if_pos this, if_pos this]
    refine ⟨rfl, rfl, fun k => ?_⟩
    rw [if_pos this]; rfl
  | .cons nm v r, f + 1, e, hg, hs, hf, he => by
    obtain ⟨hp, ⟨d, hR⟩, hgr⟩ := hg
    rw [Ks.sz_cons] at hs
    have hb : (Ks.cons nm v r).body ++ e = elemL nm v ++ (r.body ++ e) := by simp [Ks.body, elemL, hdL]
    have hbl : (Ks.cons nm v r).body.length = (elemL nm v).length + r.body.length := by simp [Ks.body, elemL, hdL]; omega
    have hel := elemL_length nm v
    have hge := eGet_elem hp hR (by omega) (r.body ++ e)
    have hok := eOk_elem hp hR (by omega : v.sz ≤ 1000000000)
    have hn : ¬ (((Ks.cons nm v r).body.length + e.length : Nat) : Int) ≤ 1 := by omega
    have htk : (elemL nm v ++ (r.body ++ e)).take (elemL nm v).length = elemL nm v := by simp
    have hdr : (elemL nm v ++ (r.body ++ e)).drop (elemL nm v).length = r.body ++ e := by simp
    have hnn : ((((Ks.cons nm v r).body.length + e.length : Nat) : Int) - ((elemL nm v).length : Nat)) = ((r.body.length + e.length : Nat) : Int) := by omega
    obtain ⟨i1, i2, i3⟩ := elemsR_body r f e hgr (by omega) (by omega) he
    simp only [elemsR, elemsT, elemAt, hb]
    rw [if_neg hn, if_neg hn]
    simp only [hge, htk, hdr, hok, if_true, hnn, i1, i2, Ks.elems]
    refine ⟨trivial, trivial, fun k => ?_⟩
    rw [if_neg hn]
    cases k with
    | zero => rfl
    | succ k => simp only [i3]; rfl
  | ks, 0, e, _, _, hf, _ => by omega
theorem doc_num (ks : Ks) (hs : ks.sz ≤ 1000000000) : num32 ks.doc = ks.body.length + 5 ∧ ks.doc.drop 4 = ks.body ++ [0] := by
  have hb := Ks.body_le ks
  simp only [Ks.sz] at hs
  refine ⟨?_, rfl⟩
  unfold Ks.doc
  rw [num32_le32 (by omega) (by omega)]
end Go.Proofs.YtcodfehgnjplcaaGreatDoor.Abs

/- Names that lead into a right document. -/
namespace Go.Proofs.YtcodfehgnjplcaaGreatDoor.Abs
set_option linter.all false
open Go.Proofs
set_option linter.unusedVariables false
set_option linter.unusedSimpArgs false
set_option maxRecDepth 100000
set_option maxHeartbeats 8000000

def Ks.find (nm : List UInt8) : Ks → Option Tr
  | .nil => none
  | .cons n v r => if n = nm then some v else Ks.find nm r
def Tr.kids : Tr → Ks
  | .mk _ _ _ _ _ _ _ _ ks => ks
theorem Tr.val_kids {v : Tr} (h : v.kind = 3 ∨ v.kind = 4) : v.val = v.kids.doc := by
  cases v with
  | mk k t m n bi hi b kn ks =>
    simp only [Tr.kind] at h
    rcases h with rfl | rfl <;> simp [Tr.val, Tr.kids, Ks.doc]
theorem Tr.kids_good {v : Tr} {d : Nat} (h : v.kind = 3 ∨ v.kind = 4) (hr : v.right d = true) : v.kids.good := by
  cases v with
  | mk k t m n bi hi b kn ks =>
    simp only [Tr.kind] at h
    simp only [Tr.right, Bool.and_eq_true] at hr
    have h2 := hr.2.2.2
    have e1 : ¬ k = 5 := by omega
    have e2 : ¬ (k = 7 ∨ k = 12) := by omega
    have e3 : ¬ k = 8 := by omega
    have e4 : ¬ k = 16 := by omega
    have e5 : ¬ k = 11 := by omega
    rw [if_neg e1, if_neg e2, if_neg e3, if_neg e4, if_neg e5] at h2
    exact Ks.right_good h2
theorem Tr.kids_sz (v : Tr) : v.kids.sz ≤ v.sz := by
  cases v with
  | mk k t m n bi hi b kn ks =>
    simp only [Tr.kids, Tr.sz, Ks.sz, Tr.nb, Tr.nodes]
    omega
def strsA (l : List (List UInt8)) : AV := .slice .frz 9 1 (l.map AV.str)
def xDep (a : List UInt8) (k : Int) : AV := .iface 243 (.agg [.str a, .int .u8 k])
def lookE (s : Nat → Nat × Nat) : List (List UInt8) → Ks → AV
  | [], _ => .nilI
  | a :: r, ks => match ks.find a with
    | none => sE (s 1)
    | some v => if r = [] then .nilI else if v.kind = 3 ∨ v.kind = 4 then lookE s r v.kids else xDep a v.kind
def lookT : List (List UInt8) → Ks → Option Tr
  | [], _ => none
  | a :: r, ks => match ks.find a with
    | none => none
    | some v => if r = [] then some v else if v.kind = 3 ∨ v.kind = 4 then lookT r v.kids else none
def lookV (o : Option Tr) : List AV := match o with | some v => [.int .u8 v.kind, bAV 5 (some v.val)] | none => [.int .u8 0, .slice .nil 0 1 []]
theorem c_code_dep (a : List UInt8) (k : Int) : ∀ hE : H, callω fns 65 [xDep a k] hE = some (.int .i64 10, hE) := by
  intro hE
  refine run65 (Nat.le_of_ble_eq_true rfl) ?_
  simp [xDep, taOk, exV]

theorem c_rlb (K : Ks) (hs : K.sz ≤ 90000) : ∀ hE : H, callω fns 210 [bAV 5 (some K.doc)] hE = some (.tup [bAV 5 (some K.doc), bAV 5 (some []), .bool true], hE) := by
  intro hE
  obtain ⟨n1, n2⟩ := doc_num K (by omega)
  have hlen := Ks.doc_length K
  have hb := Ks.body_le K
  have hsz : K.sz = K.nb + 18 * K.nodes := rfl
  have hR := c_RLen (some K.doc)
  simp only [bl] at hR
  have hk : okL K.doc = true := by unfold okL; rw [n1, hlen]; simp; omega
  rw [n1, hk, rest4_some (by omega)] at hR
  have hlt : ¬ ((K.body.length : Int) + 5 < 4) := by omega
  have hln : (K.doc.length : Int) = (K.body.length : Int) + 5 := by omega
  have w : IntKind.i64.wrap ((K.body.length : Int) + 5) = K.body.length + 5 := wrap_i64 (by omega) (by omega)
  have s1 : ∀ hp : H, slSl hp 1 (bAV 5 (some K.doc)) (some 0) (some ((K.body.length : Int) + 5)) = some (bAV 5 (some K.doc)) := fun hp => by
    have := sl_to (hp := hp) (e := 5) (l := K.doc) (m := K.doc.length) (Nat.le_refl _)
    rw [hln, List.take_length] at this; exact this
  have s2 : ∀ hp : H, slSl hp 1 (bAV 5 (some K.doc)) (some ((K.body.length : Int) + 5)) (some ((K.body.length : Int) + 5)) = some (bAV 5 (some [])) := fun hp => by
    have := sl_from (hp := hp) (e := 5) (l := K.doc) (m := K.doc.length) (Nat.le_refl _)
    rw [hln, List.drop_length] at this; exact this
  generalize K.doc = D at *
  generalize (K.body.length : Int) + 5 = N at *
  refine run210 (Nat.le_of_ble_eq_true rfl) ?_
  simp [hR, hlt, hln, w, s1, s2, bl, ex3_0, ex3_1, ex3_2]
theorem c_ValDoc (K : Ks) (hs : K.sz ≤ 90000) : ∀ hE : H, callω fns 215 [.agg [.int .u8 3, bAV 5 (some K.doc)]] hE = some (bAV 5 (some K.doc), hE) := by
  intro hE
  have h := c_rlb K hs
  have h2 : ∀ hE : H, callω fns 146 [bAV 5 (some K.doc)] hE = some (.tup [bAV 5 (some K.doc), bAV 5 (some []), .bool true], hE) := by
    intro hE
    refine run146 (Nat.le_of_ble_eq_true rfl) ?_
    simp [h, ex3_0, ex3_1, ex3_2]
  refine run215 (Nat.le_of_ble_eq_true rfl) ?_
  simp [h2, ex3_0, ex3_1, ex3_2]
theorem c_ValArr (K : Ks) (hs : K.sz ≤ 90000) : ∀ hE : H, callω fns 216 [.agg [.int .u8 4, bAV 5 (some K.doc)]] hE = some (bAV 5 (some K.doc), hE) := by
  intro hE
  have h := c_rlb K hs
  have h2 : ∀ hE : H, callω fns 147 [bAV 5 (some K.doc)] hE = some (.tup [bAV 5 (some K.doc), bAV 5 (some []), .bool true], hE) := by
    intro hE
    refine run147 (Nat.le_of_ble_eq_true rfl) ?_
    simp [h, ex3_0, ex3_1, ex3_2]
  refine run216 (Nat.le_of_ble_eq_true rfl) ?_
  simp [h2, ex3_0, ex3_1, ex3_2]
end Go.Proofs.YtcodfehgnjplcaaGreatDoor.Abs

/- Names that lead into a right document: the walk. -/
namespace Go.Proofs.YtcodfehgnjplcaaGreatDoor.Abs
set_option linter.all false
open Go.Proofs
set_option linter.unusedVariables false
set_option linter.unusedSimpArgs false
set_option maxRecDepth 100000
set_option maxHeartbeats 8000000

theorem eVal_elem {nm : List UInt8} {v : Tr} {dd : Nat} (hp : plainL nm = true) (hR : v.right dd = true) (hs : v.sz ≤ 1000000000) :
    eVal (elemL nm v) = .agg [.int .u8 v.kind, bAV 5 (some v.val)] ∧ eValErr (elemL nm v) = .nilI := by
  have h1 := eParts_elem (v := v) hp
  have h2 := vGet_val v hR hs []
  rw [List.append_nil] at h2
  have h3 := byteOf_kind hR
  unfold eVal eValErr
  rw [h1]
  simp only [h3, h2, Option.isSome_some, if_true, vData, bl, Option.map_some, List.take_length, and_self]
structure SR1 (b b' : RS) (a : List UInt8) (p : List (List UInt8)) : Prop where
  at0 : ∃ r, ixV 1 (b.fv 9 1) (.int .i64 0) = some (.eptr (.str a :: r))
  len : aLen false (b.fv 9 1) = some (.int .i64 (p.length + 1 : Nat))
  lenV : lenV (b.fv 9 1) = some ((p.length + 1 : Nat) : Int)
  sl : ∀ hp : H, slSl hp 1 (b.fv 9 1) (some 1) (some ((p.length + 1 : Nat) : Int)) = some (b'.fv 9 1)
def strsR (l : List (List UInt8)) : RS := .own true (l.map AV.str)
theorem SR1_of (a : List UInt8) (p : List (List UInt8)) : SR1 (strsR (a :: p)) (strsR p) a p where
  at0 := ⟨p.map AV.str, RS.fv_at' (k := 0) (pre := []) (by simp [strsR, RS.l]) rfl⟩
  len := by rw [RS.fv_len1]; simp [strsR, RS.l]
  lenV := by simp [strsR, RS.fv]
  sl := fun hp => by
    show slSl hp 1 (.slice .frz 9 1 ((a :: p).map AV.str)) (some 1) (some ((p.length + 1 : Nat) : Int)) = _
    simp only [slSl]
    rw [if_pos ⟨by omega, by omega, by simp, .inr trivial⟩]
    simp [strsR, RS.fv, List.take_of_length_le]

theorem c_Key1 {nm : List UInt8} {v : Tr} (hp : plainL nm = true) (hl : (elemL nm v).length < 2147483648) : ∀ hE : H, callω fns 217 [bAV 5 (some (elemL nm v))] hE = some (.str nm, hE) := by
  intro hE
  have h := c_KeyErr (elemL nm v) hl
  rw [eParts_elem (v := v) hp] at h
  simp only at h
  refine run217 (Nat.le_of_ble_eq_true rfl) ?_
  simp [h, ex2_0, ex2_1]
theorem look_cases (s : Nat → Nat × Nat) : ∀ (p : List (List UInt8)) (ks : Ks), p ≠ [] → (lookT p ks = none ∧ (lookE s p ks = sE (s 1) ∨ ∃ x k, lookE s p ks = xDep x k)) ∨ ∃ w, lookT p ks = some w ∧ lookE s p ks = .nilI
  | [], ks, h => absurd rfl h
  | a :: r, ks, _ => by
    simp only [lookT, lookE]
    cases ks.find a with
    | none => exact .inl ⟨rfl, .inl rfl⟩
    | some v =>
      simp only
      by_cases hr : r = []
      · rw [if_pos hr, if_pos hr]; exact .inr ⟨v, rfl, rfl⟩
      · rw [if_neg hr, if_neg hr]
        by_cases hk : v.kind = 3 ∨ v.kind = 4
        · rw [if_pos hk, if_pos hk]; exact look_cases s r v.kids hr
        · rw [if_neg hk, if_neg hk]; exact .inl ⟨rfl, .inr ⟨_, _, rfl⟩⟩
theorem l_Lookup {K : Ks} {a : List UInt8} {p : List (List UInt8)} {b b' : RS} (hb : SR1 b b' a p) (hpl : p.length ≤ 1000000) {s : Nat → Nat × Nat}
    (hrec : p ≠ [] → ∀ ks : Ks, ks.good → ks.sz ≤ 90000 → ∀ hE : H, Sens hE.Γ s → callω fns 161 [bAV 5 (some ks.doc), b'.fv 9 1] hE = some (.tup [.agg (lookV (lookT p ks)), lookE s p ks], hE)) :
    ∀ (r : Ks) (st : St), st.s 0 = bAV 5 (some K.doc) → st.s 1 = b.fv 9 1 → st.s 4 = .ptr (.loc 4) 0 → st.b 4 = some (.cells [.int .u8 0, .slice .nil 0 1 []]) → st.b 11 = none → st.b 13 = none → st.s 6 = .int .i32 (r.body.length + 1) → st.s 7 = bAV 5 (some (r.body ++ [0])) →
      r.good → r.sz ≤ 90000 → Sens st.h.Γ s → ∀ Q : Ex × St → Prop,
      (r.find a = none → ∀ st' : St, st'.h = st.h → st'.s 4 = .ptr (.loc 4) 0 → st'.b 4 = some (.cells [.int .u8 0, .slice .nil 0 1 []]) → Q (.exit 0, st')) →
      (∀ v, r.find a = some v → ∀ st' : St, st'.h = st.h → st'.s 4 = .ptr (.loc 4) 0 → st'.b 4 = some (.cells (lookV (if p = [] then some v else if v.kind = 3 ∨ v.kind = 4 then lookT p v.kids else none))) →
        st'.s 5 = (if p = [] then .nilI else if v.kind = 3 ∨ v.kind = 4 then lookE s p v.kids else xDep a v.kind) → Q (.ret, st')) → LoopR fns lc161_0 st Q
  | .nil, st, h0, h1, h4, hb4, hb11, hb13, h6, h7, hg, hsz, hS, Q, hA, hB => by
    refine loopω_run fns ?_
    simp [Ks.body, h6]
    refine hA rfl _ ?_ ?_ ?_ <;> simp [h4, hb4]
  | .cons nm v r, st, h0, h1, h4, hb4, hb11, hb13, h6, h7, hg, hsz, hS, Q, hA, hB => by
    refine loopω_run fns ?_
    obtain ⟨hp, ⟨dd, hR⟩, hG⟩ := hg
    rw [Ks.sz_cons] at hsz
    have hvl := Tr.val_le v
    have hvs : v.sz = v.nb + 18 * v.nodes := rfl
    have hel := elemL_length nm v
    have hbl := Ks.body_le r
    have hrs : r.sz = r.nb + 18 * r.nodes := rfl
    have hB0 : (Ks.cons nm v r).body = elemL nm v ++ r.body := by simp [Ks.body, elemL, hdL]
    rw [hB0] at h6 h7
    rw [List.append_assoc] at h7
    have hre := c_ReadElement (elemL nm v ++ (r.body ++ [0])) (by simp; omega)
    have he : eRes (elemL nm v ++ (r.body ++ [0])) = .tup [bAV 5 (some (elemL nm v)), bAV 5 (some (r.body ++ [0])), .bool true] := by
      simp only [eRes, eGet_elem hp hR (by omega) (r.body ++ [0]), List.take_left, List.drop_left]
    rw [he] at hre
    have hkb := c_KeyBytes (elemL nm v) (by omega)
    rw [eParts_elem (v := v) hp] at hkb
    simp only at hkb
    have hg1 : (1 : Int) < ((elemL nm v ++ r.body).length : Int) + 1 := by simp; omega
    have w0 : IntKind.i32.wrap ((elemL nm v).length : Int) = (elemL nm v).length := i32_small (by omega) (by omega)
    have w1 : IntKind.i32.wrap ((((elemL nm v ++ r.body).length : Int) + 1) - (elemL nm v).length) = r.body.length + 1 := by
      rw [i32_small] <;> simp <;> omega
    obtain ⟨rst, b1⟩ := hb.at0
    have b2 := hb.len
    have b3 := hb.lenV
    have b4 := hb.sl
    generalize ((elemL nm v ++ r.body).length : Int) + 1 = N at *
    by_cases hnm : nm = a
    case neg =>
      have hf : (Ks.cons nm v r).find a = r.find a := by simp [Ks.find, hnm]
      rw [hf] at hA hB
      have hnm' : (nm == a) = false := by simpa using hnm
      generalize elemL nm v = E at *
      simp [h0, h1, h4, hb4, h6, h7, hg1, hre, hkb, w0, w1, b1, hnm', ex3_0, ex3_1, ex3_2, bl]
      refine l_Lookup (K := K) hb hpl hrec r _ ?_ ?_ ?_ ?_ ?_ ?_ ?_ ?_ hG (by omega) ?_ Q (fun k st' q1 q2 q3 => hA k st' ?_ q2 q3) (fun v k st' q1 q2 q3 q4 => hB v k st' ?_ q2 q3 q4)
      · simp [h0]
      · simp [h1]
      · simp [h4]
      · simp [hb4]
      · simp [hb11]
      · simp [hb13]
      · simp
      · simp
      · exact hS
      · rw [q1]
      · rw [q1]
    subst hnm
    have hf : (Ks.cons nm v r).find nm = some v := by simp [Ks.find]
    have hB' := hB v hf
    obtain ⟨ev, ee⟩ := eVal_elem (v := v) hp hR (by omega)
    by_cases hpe : p = []
    · subst hpe
      have hv := c_ValueErr (elemL nm v) (by omega)
      rw [ev, ee] at hv
      simp only [List.length_nil, Nat.zero_add] at b2
      simp only [if_true] at hB'
      generalize elemL nm v = E at *
      simp [h0, h1, h4, hb4, h6, h7, hg1, hre, hkb, w0, w1, b1, b2, hv, ex3_0, ex3_1, ex3_2, ex2_0, ex2_1, bl]
      refine hB' _ ?_ ?_ ?_ ?_ <;> simp [lookV, h4]
    · simp only [if_neg hpe] at hB'
      have hp1 : (1 : Int) < ((p.length + 1 : Nat) : Int) := by have : p.length ≠ 0 := fun e => hpe (List.length_eq_zero_iff.1 e); omega
      have hev := c_ElemValue (elemL nm v) (by omega)
      rw [ev] at hev
      have hix0 : ixV 1 (bAV 5 (some (elemL nm v))) (.int .i64 0) = some (.eptr (.int .u8 v.kind :: byteCells (nm ++ 0 :: v.val))) := by
        have e : elemL nm v = byteOf v.kind :: (nm ++ 0 :: v.val) := by simp [elemL, hdL]
        rw [e, ix_head, byteOf_kind hR]
      generalize (p.length + 1 : Nat) = PL at *
      by_cases h3 : v.kind = 3
      · have hk : v.kind = 3 ∨ v.kind = 4 := .inl h3
        rw [if_pos hk, if_pos hk] at hB'
        have hs2 := Tr.kids_sz v
        have hr2 := hrec hpe v.kids (Tr.kids_good hk hR) (by omega)
        have hd2 := c_ValDoc v.kids (by omega)
        rw [Tr.val_kids hk] at hev
        have hcs : (lookT p v.kids = none ∧ (lookE s p v.kids = sE (s 1) ∨ ∃ x k, lookE s p v.kids = xDep x k)) ∨ ∃ w, lookT p v.kids = some w ∧ lookE s p v.kids = .nilI := look_cases s p v.kids hpe
        generalize elemL nm v = E at *
        generalize v.kids.doc = D at *
        rw [h3] at hev hix0
        generalize lookT p v.kids = LT at *
        generalize lookE s p v.kids = LE at *
        have hr3 := hr2 st.h.mask hS
        rcases hcs with ⟨rfl, hle⟩ | ⟨w, rfl, rfl⟩
        · rcases hle with rfl | ⟨x, k, rfl⟩ <;> simp only [sE, xDep] at hr3 hB' <;>
            simp [h0, h1, h4, hb4, hb11, hb13, h6, h7, hg1, hre, hkb, w0, w1, b1, b2, b3, b4, hp1, hix0, hev, hd2, hr3, lookV, ex3_0, ex3_1, ex3_2, ex2_0, ex2_1, bl] <;>
            refine hB' _ ?_ ?_ ?_ ?_ <;> simp [lookV, h4, hb4]
        · simp [h0, h1, h4, hb4, hb11, hb13, h6, h7, hg1, hre, hkb, w0, w1, b1, b2, b3, b4, hp1, hix0, hev, hd2, hr3, lookV, ex3_0, ex3_1, ex3_2, ex2_0, ex2_1, bl]
          refine hB' _ ?_ ?_ ?_ ?_ <;> simp [lookV, h4, hb4]
      by_cases h4k : v.kind = 4
      · have hk : v.kind = 3 ∨ v.kind = 4 := .inr h4k
        rw [if_pos hk, if_pos hk] at hB'
        have hs2 := Tr.kids_sz v
        have hr2 := hrec hpe v.kids (Tr.kids_good hk hR) (by omega)
        have hd2 := c_ValArr v.kids (by omega)
        rw [Tr.val_kids hk] at hev
        have hcs : (lookT p v.kids = none ∧ (lookE s p v.kids = sE (s 1) ∨ ∃ x k, lookE s p v.kids = xDep x k)) ∨ ∃ w, lookT p v.kids = some w ∧ lookE s p v.kids = .nilI := look_cases s p v.kids hpe
        generalize elemL nm v = E at *
        generalize v.kids.doc = D at *
        rw [h4k] at hev hix0
        generalize lookT p v.kids = LT at *
        generalize lookE s p v.kids = LE at *
        have hr3 := hr2 st.h.mask hS
        rcases hcs with ⟨rfl, hle⟩ | ⟨w, rfl, rfl⟩
        · rcases hle with rfl | ⟨x, k, rfl⟩ <;> simp only [sE, xDep] at hr3 hB' <;>
            simp [h0, h1, h4, hb4, hb11, hb13, h6, h7, hg1, hre, hkb, w0, w1, b1, b2, b3, b4, hp1, hix0, hev, hd2, hr3, lookV, ex3_0, ex3_1, ex3_2, ex2_0, ex2_1, bl] <;>
            refine hB' _ ?_ ?_ ?_ ?_ <;> simp [lookV, h4, hb4]
        · simp [h0, h1, h4, hb4, hb11, hb13, h6, h7, hg1, hre, hkb, w0, w1, b1, b2, b3, b4, hp1, hix0, hev, hd2, hr3, lookV, ex3_0, ex3_1, ex3_2, ex2_0, ex2_1, bl]
          refine hB' _ ?_ ?_ ?_ ?_ <;> simp [lookV, h4, hb4]
      · have hk : ¬ (v.kind = 3 ∨ v.kind = 4) := by omega
        rw [if_neg hk, if_neg hk] at hB'
        have hkey := c_Key1 hp (v := v) (by omega)
        generalize elemL nm v = E at *
        generalize v.kind = VK at *
        simp only [xDep] at hB'
        simp [h0, h1, h4, hb4, hb11, hb13, h6, h7, hg1, hre, hkb, w0, w1, b1, b2, b3, b4, hp1, hix0, hev, hkey, h3, h4k, lookV, ex3_0, ex3_1, ex3_2, ex2_0, ex2_1, bl, mkI]
        refine hB' _ ?_ ?_ ?_ ?_ <;> simp [lookV, h4, hb4]
end Go.Proofs.YtcodfehgnjplcaaGreatDoor.Abs

/- Names that lead into a right document: LookupErr. -/
namespace Go.Proofs.YtcodfehgnjplcaaGreatDoor.Abs
set_option linter.all false
open Go.Proofs
set_option linter.unusedVariables false
set_option linter.unusedSimpArgs false
set_option maxRecDepth 100000
set_option maxHeartbeats 8000000

theorem lookE_cases (s : Nat → Nat × Nat) (p : List (List UInt8)) (v : Tr) (a : List UInt8) : (if p = [] then AV.nilI else if v.kind = 3 ∨ v.kind = 4 then lookE s p v.kids else xDep a v.kind) = .nilI ∨
    (if p = [] then AV.nilI else if v.kind = 3 ∨ v.kind = 4 then lookE s p v.kids else xDep a v.kind) = sE (s 1) ∨ ∃ x k, (if p = [] then AV.nilI else if v.kind = 3 ∨ v.kind = 4 then lookE s p v.kids else xDep a v.kind) = xDep x k := by
  by_cases hp : p = []
  · rw [if_pos hp]; exact .inl rfl
  · rw [if_neg hp]
    by_cases hk : v.kind = 3 ∨ v.kind = 4
    · rw [if_pos hk]
      rcases look_cases s p v.kids hp with ⟨_, h | h⟩ | ⟨_, _, h⟩
      · exact .inr (.inl h)
      · exact .inr (.inr h)
      · exact .inl h
    · rw [if_neg hk]; exact .inr (.inr ⟨_, _, rfl⟩)
def lookK (o : Option Tr) : Int := match o with | some v => v.kind | none => 0
def lookB (o : Option Tr) : Option (List UInt8) := match o with | some v => some v.val | none => none
theorem lookV_eq (o : Option Tr) : lookV o = [.int .u8 (lookK o), bAV 5 (lookB o)] := by cases o <;> rfl
theorem lookV_cases (o : Option Tr) : ∃ k b, lookV o = [.int .u8 k, bAV 5 b] := ⟨_, _, lookV_eq o⟩
theorem c_LookupErr {s : Nat → Nat × Nat} : ∀ (p : List (List UInt8)), p ≠ [] → p.length ≤ 1000 → ∀ ks : Ks, ks.good → ks.sz ≤ 90000 → ∀ hE : H, Sens hE.Γ s →
    callω fns 161 [bAV 5 (some ks.doc), (strsR p).fv 9 1] hE = some (.tup [.agg (lookV (lookT p ks)), lookE s p ks], hE)
  | [], h, _, _, _, _, _, _ => absurd rfl h
  | a :: p, _, hpl, K, hg, hs, hE, hS => by
    have hrec : p ≠ [] → ∀ ks : Ks, ks.good → ks.sz ≤ 90000 → ∀ hE : H, Sens hE.Γ s → callω fns 161 [bAV 5 (some ks.doc), (strsR p).fv 9 1] hE = some (.tup [.agg (lookV (lookT p ks)), lookE s p ks], hE) :=
      fun hp ks h1 h2 hE hS => c_LookupErr p hp (by simp at hpl; omega) ks h1 h2 hE hS
    have hsr := SR1_of a p
    generalize strsR p = b' at *
    generalize strsR (a :: p) = b at *
    obtain ⟨n1, n2⟩ := doc_num K (by omega)
    have hlen := Ks.doc_length K
    have hb := Ks.body_le K
    have hsz : K.sz = K.nb + 18 * K.nodes := rfl
    have hR := c_RLen (some K.doc)
    simp only [bl] at hR
    have hk : okL K.doc = true := by unfold okL; rw [n1, hlen]; simp; omega
    rw [n1, hk, rest4_some (by omega), n2] at hR
    have b2 := hsr.len
    have hp1 : ¬ (((p.length + 1 : Nat) : Int) < 1) := by omega
    have w1 : IntKind.i32.wrap ((K.body.length : Int) + 5 - 4) = K.body.length + 1 := by rw [i32_small (by omega) (by omega)]; omega
    simp only [lookT, lookE]
    have hg1 := hS.g1
    simp only [sE] at hg1
    generalize ((p.length + 1 : Nat) : Int) = PL at *
    refine run161 (Nat.le_of_ble_eq_true rfl) ?_
    simp [hR, b2, hp1, w1, ex3_0, ex3_1, ex3_2]
    refine l_Lookup (K := K) (p := p) hsr (by simp at hpl; omega) hrec K _ ?_ ?_ ?_ ?_ ?_ ?_ ?_ ?_ hg (by omega) ?_ _ (fun hf st' q1 q2 q3 => ?_) (fun v hf st' q1 q2 q3 q4 => ?_)
    · simp
    · simp
    · simp
    · simp
    · simp
    · simp
    · simp
    · simp
    · exact hS
    · rw [hf]
      simp [q1, q2, q3, hg1, glV, sE, lookV]
    · rw [hf]
      simp only
      have h5 := lookE_cases s p v a
      obtain ⟨k, o, hlv⟩ := lookV_cases (if p = [] then some v else if v.kind = 3 ∨ v.kind = 4 then lookT p v.kids else none)
      rw [hlv] at q3 ⊢
      generalize (if p = [] then AV.nilI else if v.kind = 3 ∨ v.kind = 4 then lookE s p v.kids else xDep a v.kind) = E5 at *
      rcases h5 with rfl | rfl | ⟨x, k, rfl⟩ <;> (try simp only [sE, xDep] at q4 ⊢) <;> simp [q1, q2, q3, q4]
end Go.Proofs.YtcodfehgnjplcaaGreatDoor.Abs
