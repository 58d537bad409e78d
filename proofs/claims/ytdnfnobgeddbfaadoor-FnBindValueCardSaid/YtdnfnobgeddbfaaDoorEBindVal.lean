/- How long a value is: what its bytes say, all of them or broken off. -/
import Derived.Test.YtdnfnobgeddbfaaDoorERdLen
import Derived.Test.YtdnfnobgeddbfaaDoorEDoc5
namespace Go.Proofs.YtdnfnobgeddbfaaDoor.Abs
set_option linter.all false
open Go.Proofs
set_option linter.unusedVariables false
set_option linter.unusedSimpArgs false
set_option maxRecDepth 100000
set_option maxHeartbeats 8000000

theorem i32_small {n : Int} (h0 : -2147483648 ≤ n) (h1 : n < 2147483648) : IntKind.i32.wrap n = n := by simp [IntKind.wrap, IntKind.signed, IntKind.bits]; omega
theorem ibV_b {h : H} {e : Nat} {o : Option (List UInt8)} {c : Int} : ibV h (bAV e o) (.int .u8 c) = some (.int .i64 (Go.Lib.indexByte (bl o) (UInt8.ofNat c.toNat))) := by
  have h1 : (bAV e o).isOwn = false := by cases o <;> rfl
  simp [ibV, h1]
theorem ix_plain : ∀ {l : List UInt8}, plainL l = true → Go.Lib.indexByte l 0 = -1
  | [], _ => rfl
  | c :: r, h => by
    unfold plainL at h
    split at h
    · cases h
    · rename_i hc
      simp [Go.Lib.indexByte, hc, ix_plain h]
theorem ix_zero : ∀ {l r : List UInt8}, plainL l = true → Go.Lib.indexByte (l ++ 0 :: r) 0 = l.length
  | [], r, _ => by simp [Go.Lib.indexByte]
  | c :: l, r, h => by
    unfold plainL at h
    split at h
    · cases h
    · rename_i hc
      have ih := ix_zero (r := r) h
      have : ¬ ((l.length : Int) = -1) := by omega
      simp [Go.Lib.indexByte, hc, ih, this]
theorem plain_take : ∀ {l : List UInt8} (c : Nat), plainL l = true → plainL (l.take c) = true
  | [], c, _ => by simp [plainL]
  | x :: l, 0, _ => by simp [plainL]
  | x :: l, c + 1, h => by
    unfold plainL at h
    split at h
    · cases h
    · rename_i hc
      simp [plainL, hc, plain_take c h]
theorem c_IndexByte (o : Option (List UInt8)) (c : Int) : ∀ hE : H, callω fns 82 [bAV 5 o, .int .u8 c] hE = some (.int .i64 (Go.Lib.indexByte (bl o) (UInt8.ofNat c.toNat)), hE) := by
  intro hE
  refine run82 (Nat.le_of_ble_eq_true rfl) ?_
  simp [ibV_b]
theorem known_kinds {k : Int} (h : knownK k = true) : k = 1 ∨ k = 2 ∨ k = 3 ∨ k = 4 ∨ k = 5 ∨ k = 6 ∨ k = 7 ∨ k = 8 ∨ k = 9 ∨ k = 10 ∨ k = 11 ∨ k = 12 ∨ k = 13 ∨ k = 14 ∨ k = 15 ∨ k = 16 ∨ k = 17 ∨ k = 18 ∨ k = 19 ∨ k = 127 ∨ k = 255 := by
  simp [knownK] at h; omega
theorem c_RL (o : Option (List UInt8)) (m : Int) (h0 : 0 ≤ m) (h1 : m < 2147483648) (rest : List UInt8) (c : Nat) (ho : bl o = (le32 m ++ rest).take c) :
    ∃ n x ok, (∀ hE : H, callω fns 71 [bAV 5 o] hE = some (.tup [.int .i32 n, bAV 5 x, .bool ok], hE)) ∧ ((c < 4 ∧ n = 0 ∧ ok = false) ∨ (4 ≤ c ∧ n = m ∧ ok = true)) := by
  by_cases hc : c < 4
  · exact ⟨0, o, false, c_ReadLength_short o (by rw [ho, List.length_take]; omega), .inl ⟨hc, rfl, rfl⟩⟩
  · obtain ⟨k, rfl⟩ : ∃ k, c = k + 1 + 1 + 1 + 1 := ⟨c - 4, by omega⟩
    have ho' : bl o = byteOf m :: byteOf (m / 256) :: byteOf (m / 65536) :: byteOf (m / 16777216) :: rest.take k := by rw [ho]; simp [le32]
    cases o with
    | none => simp [bl] at ho'
    | some l =>
      simp only [bl] at ho'
      subst ho'
      have := c_ReadLength (byteOf m) (byteOf (m / 256)) (byteOf (m / 65536)) (byteOf (m / 16777216)) (rest.take k)
      rw [rd32_le32 (by omega) (by omega)] at this
      simp only [h0, decide_true] at this
      exact ⟨_, _, _, this, .inr ⟨by omega, rfl, rfl⟩⟩

/-- The kinds whose bytes begin with a number: what it tells. -/
theorem vl_len {k m d : Int} (hk : (k = 3 ∨ k = 4 ∨ k = 15) ∧ d = 0 ∨ k = 5 ∧ d = 5 ∨ k = 12 ∧ d = 16 ∨ (k = 13 ∨ k = 2 ∨ k = 14) ∧ d = 4) (h0 : 0 ≤ m) (h1 : m < 2147480000) (rest : List UInt8) (hl : m + d = 4 + rest.length) (o : Option (List UInt8)) (c : Nat) (hc : c ≤ 4 + rest.length) (ho : bl o = (le32 m ++ rest).take c) :
    ∃ n ok, (∀ hE : H, callω fns 84 [bAV 5 o, .int .u8 k] hE = some (.tup [.int .i32 n, .bool ok], hE)) ∧ (0 ≤ n ∧ n < 2147483648) ∧ ((ok = true ∧ n ≤ c) ↔ c = 4 + rest.length) := by
  obtain ⟨n, x, ok, h, hn⟩ := c_RL o m h0 (by omega) rest c ho
  have hn0 : 0 ≤ n ∧ n < 2147480000 := by omega
  have e1 : IntKind.i32.wrap (n + 5) = n + 5 := i32_small (by omega) (by omega)
  have e2 : IntKind.i32.wrap (n + 16) = n + 16 := i32_small (by omega) (by omega)
  have e3 : IntKind.i32.wrap (n + 4) = n + 4 := i32_small (by omega) (by omega)
  have g0 : ¬ n < 0 := by omega
  have g1 : ¬ n + 5 < 0 := by omega
  have g2 : ¬ n + 16 < 0 := by omega
  have g3 : ¬ n + 4 < 0 := by omega
  refine ⟨n + d, ok, fun hE => ?_, by omega, ?_⟩
  · refine run84 (Nat.le_of_ble_eq_true rfl) ?_
    rcases hk with ⟨rfl | rfl | rfl, rfl⟩ | ⟨rfl, rfl⟩ | ⟨rfl, rfl⟩ | ⟨rfl | rfl | rfl, rfl⟩ <;> simp [h, e1, e2, e3, g0, g1, g2, g3, exV]
  · rcases hn with ⟨a, rfl, rfl⟩ | ⟨a, rfl, rfl⟩
    · simp; omega
    · simp; omega

theorem c_valueLength (v : Tr) {dd : Nat} (hR : v.right dd = true) (hs : v.sz ≤ 1000000000) (o : Option (List UInt8)) (c : Nat) (hc : c ≤ v.val.length) (ho : bl o = v.val.take c) :
    ∃ n ok, (∀ hE : H, callω fns 84 [bAV 5 o, .int .u8 v.kind] hE = some (.tup [.int .i32 n, .bool ok], hE)) ∧ (0 ≤ n ∧ n < 2147483648) ∧ ((ok = true ∧ n ≤ c) ↔ c = v.val.length) := by
  cases v with
  | mk k t m n bi hi bb kn ks =>
  simp only [Tr.right, Bool.and_eq_true] at hR
  obtain ⟨hk, hd, hbare, hR⟩ := hR
  have hb := Ks.body_le ks
  simp only [Tr.sz, Tr.nb, Tr.nodes] at hs
  have fixed : ∀ (z : Nat), (Tr.mk k t m n bi hi bb kn ks).val.length = z → (∀ hE : H, callω fns 84 [bAV 5 o, .int .u8 k] hE = some (.tup [.int .i32 z, .bool true], hE)) →
      ∃ N ok, (∀ hE : H, callω fns 84 [bAV 5 o, .int .u8 k] hE = some (.tup [.int .i32 N, .bool ok], hE)) ∧ (0 ≤ N ∧ N < 2147483648) ∧ ((ok = true ∧ N ≤ c) ↔ c = (Tr.mk k t m n bi hi bb kn ks).val.length) := fun z h1 h2 =>
    ⟨z, true, h2, by have := Tr.val_le (Tr.mk k t m n bi hi bb kn ks); simp only [Tr.nb, Tr.nodes] at this; omega, by rw [h1] at hc ⊢; simp; omega⟩
  have txt : ∀ s : List UInt8, txtL s = le32 (s.length + 1) ++ (s ++ [0]) := fun s => rfl
  simp only [Tr.kind]
  rcases known_kinds hk with rfl | rfl | rfl | rfl | rfl | rfl | rfl | rfl | rfl | rfl | rfl | rfl | rfl | rfl | rfl | rfl | rfl | rfl | rfl | rfl | rfl
  · exact fixed 8 (by simp [Tr.val, le64_length]) fun hE => run84 (Nat.le_of_ble_eq_true rfl) (by simp)
  · have hv : (Tr.mk 2 t m n bi hi bb kn ks).val = le32 (t.length + 1) ++ (t ++ [0]) := by simp [Tr.val, txtL]
    rw [hv] at ho hc ⊢
    have := vl_len (k := 2) (m := t.length + 1) (d := 4) (by omega) (by omega) (by omega) (t ++ [0]) (by simp; omega) o c (by simpa [le32_length] using hc) ho
    simpa [le32_length] using this
  · have hv : (Tr.mk 3 t m n bi hi bb kn ks).val = le32 ((ks.body.length : Int) + 5) ++ (ks.body ++ [0]) := by simp [Tr.val, txtL]
    rw [hv] at ho hc ⊢
    have := vl_len (k := 3) (m := (ks.body.length : Int) + 5) (d := 0) (by omega) (by omega) (by first | omega | (simp; omega)) (ks.body ++ [0]) (by simp [le32_length]; omega) o c (by simpa [le32_length] using hc) ho
    simpa [le32_length] using this
  · have hv : (Tr.mk 4 t m n bi hi bb kn ks).val = le32 ((ks.body.length : Int) + 5) ++ (ks.body ++ [0]) := by simp [Tr.val, txtL]
    rw [hv] at ho hc ⊢
    have := vl_len (k := 4) (m := (ks.body.length : Int) + 5) (d := 0) (by omega) (by omega) (by first | omega | (simp; omega)) (ks.body ++ [0]) (by simp [le32_length]; omega) o c (by simpa [le32_length] using hc) ho
    simpa [le32_length] using this
  · by_cases n2 : n = 2
    · subst n2
      have hv : (Tr.mk 5 t m 2 bi hi bb kn ks).val = le32 (((bl bb).length : Int) + 4) ++ (2 :: (le32 (bl bb).length ++ bl bb)) := by simp [Tr.val]
      rw [hv] at ho hc ⊢
      have := vl_len (k := 5) (m := ((bl bb).length : Int) + 4) (d := 5) (by omega) (by omega) (by omega) (2 :: (le32 (bl bb).length ++ bl bb)) (by simp [le32_length]; omega) o c (by simpa [le32_length] using hc) ho
      simpa [le32_length] using this
    · have hv : (Tr.mk 5 t m n bi hi bb kn ks).val = le32 ((bl bb).length : Int) ++ (byteOf n :: bl bb) := by simp [Tr.val, n2]
      rw [hv] at ho hc ⊢
      have := vl_len (k := 5) (m := ((bl bb).length : Int)) (d := 5) (by omega) (by omega) (by omega) (byteOf n :: bl bb) (by simp [le32_length]; omega) o c (by simpa [le32_length] using hc) ho
      simpa [le32_length] using this
  · exact fixed 0 (by simp [Tr.val, le64_length, le32_length]) fun hE => run84 (Nat.le_of_ble_eq_true rfl) (by simp)
  · exact fixed 12 (by simpa [Tr.val] using hR) fun hE => run84 (Nat.le_of_ble_eq_true rfl) (by simp)
  · exact fixed 1 (by simp [Tr.val, le64_length, le32_length]) fun hE => run84 (Nat.le_of_ble_eq_true rfl) (by simp)
  · exact fixed 8 (by simp [Tr.val, le64_length, le32_length]) fun hE => run84 (Nat.le_of_ble_eq_true rfl) (by simp)
  · exact fixed 0 (by simp [Tr.val, le64_length, le32_length]) fun hE => run84 (Nat.le_of_ble_eq_true rfl) (by simp)
  · simp at hR
    obtain ⟨ht, hm⟩ := hR
    have hv : (Tr.mk 11 t m n bi hi bb kn ks).val = t ++ (0 :: (m ++ [0])) := by simp [Tr.val]
    rw [hv] at ho hc ⊢
    have z0 : UInt8.ofNat (0 : Int).toNat = 0 := rfl
    have hI := c_IndexByte o 0
    rw [z0, ho] at hI
    have hlen : (t ++ (0 :: (m ++ [(0 : UInt8)]))).length = t.length + m.length + 2 := by simp; omega
    by_cases h1 : c ≤ t.length
    · rw [List.take_append_of_le_length h1, ix_plain (plain_take c ht)] at hI
      refine ⟨0, false, fun hE => ?_, by omega, ⟨fun h => (by cases h.1), fun h => (by rw [hlen] at h; omega)⟩⟩
      refine run84 (Nat.le_of_ble_eq_true rfl) ?_
      simp [hI]
    · obtain ⟨q, rfl⟩ : ∃ q, c = t.length + (q + 1) := ⟨c - t.length - 1, by omega⟩
      have htk : (t ++ (0 :: (m ++ [(0 : UInt8)]))).take (t.length + (q + 1)) = t ++ (0 : UInt8) :: ((m ++ [(0 : UInt8)]).take q) := by
        rw [List.take_append, List.take_of_length_le (by omega), show t.length + (q + 1) - t.length = q + 1 by omega, List.take_succ_cons]
      rw [htk] at hI ho
      rw [ix_zero ht] at hI
      have hq : ((m ++ [(0 : UInt8)]).take q).length = q := by rw [hlen] at hc; rw [List.length_take, List.length_append, List.length_singleton]; omega
      cases o with
      | none => simp [bl] at ho
      | some l =>
        simp only [bl] at ho
        subst ho
        have hll : (t ++ (0 : UInt8) :: ((m ++ [(0 : UInt8)]).take q)).length = t.length + 1 + q := by rw [List.length_append, List.length_cons, hq]; omega
        have hs2 : ∀ h : H, slSl h 1 (bAV 5 (some (t ++ (0 : UInt8) :: ((m ++ [(0 : UInt8)]).take q)))) (some ((t.length : Int) + 1)) (some (t.length + 1 + q : Nat)) = some (bAV 5 (some ((m ++ [(0 : UInt8)]).take q))) := fun h => by
          rw [sl_b (by omega) (by omega) (by rw [hll]; exact Int.le_refl _)]
          have e1 : ((t.length : Int) + 1).toNat = t.length + 1 := by omega
          have e2 : (t ++ (0 : UInt8) :: ((m ++ [(0 : UInt8)]).take q)).drop (t.length + 1) = (m ++ [(0 : UInt8)]).take q := by simp [List.drop_append]
          rw [e1, Int.toNat_natCast, e2, List.take_of_length_le (by rw [hq]; omega)]
        have w1 : IntKind.i64.wrap ((t.length : Int) + 1) = t.length + 1 := wrap_i64 (by omega) (by omega)
        have gt : ¬ ((t.length : Int) < 0) := by omega
        have hJ := c_IndexByte (some ((m ++ [(0 : UInt8)]).take q)) 0
        rw [z0] at hJ
        simp only [bl] at hJ
        have hL : (bl (some (t ++ (0 : UInt8) :: ((m ++ [(0 : UInt8)]).take q)))).length = t.length + 1 + q := hll
        generalize t ++ (0 : UInt8) :: ((m ++ [(0 : UInt8)]).take q) = X at *
        by_cases h2 : q ≤ m.length
        · rw [List.take_append_of_le_length h2, ix_plain (plain_take q hm)] at hJ
          rw [List.take_append_of_le_length h2] at hs2
          refine ⟨0, false, fun hE => ?_, by omega, ⟨fun h => (by cases h.1), fun h => (by rw [hlen] at h; omega)⟩⟩
          refine run84 (Nat.le_of_ble_eq_true rfl) ?_
          simp only [Int.natCast_add, Int.natCast_one] at hs2 hL
          simp [hI, hJ, w1, gt, hs2, hll]
        · have hq2 : q = m.length + 1 := by rw [hlen] at hc; omega
          subst hq2
          have htk2 : (m ++ [(0 : UInt8)]).take (m.length + 1) = m ++ (0 : UInt8) :: [] := List.take_of_length_le (by simp)
          rw [htk2] at hJ hs2
          rw [ix_zero hm] at hJ
          have w2 : IntKind.i64.wrap ((t.length : Int) + 1 + m.length) = t.length + 1 + m.length := wrap_i64 (by omega) (by omega)
          have w3 : IntKind.i64.wrap ((t.length : Int) + 1 + m.length + 1) = t.length + 1 + m.length + 1 := wrap_i64 (by omega) (by omega)
          have w4 : IntKind.i32.wrap ((t.length : Int) + 1 + m.length + 1) = t.length + 1 + m.length + 1 := i32_small (by omega) (by omega)
          have gm : ¬ ((m.length : Int) < 0) := by omega
          have ge : ¬ ((t.length : Int) + 1 + m.length + 1 < 0) := by omega
          refine ⟨(t.length : Int) + 1 + m.length + 1, true, fun hE => ?_, by omega, by rw [hlen]; simp; omega⟩
          refine run84 (Nat.le_of_ble_eq_true rfl) ?_
          simp only [Int.natCast_add, Int.natCast_one] at hs2 hL
          simp [hI, hJ, w1, w2, w3, w4, gt, gm, ge, hs2, hll]
  · simp at hR
    have hv : (Tr.mk 12 t m n bi hi bb kn ks).val = le32 ((t.length : Int) + 1) ++ (t ++ [0] ++ bl bb) := by simp [Tr.val, txtL]
    rw [hv] at ho hc ⊢
    have := vl_len (k := 12) (m := (t.length : Int) + 1) (d := 16) (by omega) (by omega) (by omega) (t ++ [0] ++ bl bb) (by simp [hR]; omega) o c (by simpa [le32_length] using hc) ho
    simpa [le32_length] using this
  · have hv : (Tr.mk 13 t m n bi hi bb kn ks).val = le32 ((t.length : Int) + 1) ++ (t ++ [0]) := by simp [Tr.val, txtL]
    rw [hv] at ho hc ⊢
    have := vl_len (k := 13) (m := (t.length : Int) + 1) (d := 4) (by omega) (by omega) (by first | omega | (simp; omega)) (t ++ [0]) (by simp [le32_length]; omega) o c (by simpa [le32_length] using hc) ho
    simpa [le32_length] using this
  · have hv : (Tr.mk 14 t m n bi hi bb kn ks).val = le32 ((t.length : Int) + 1) ++ (t ++ [0]) := by simp [Tr.val, txtL]
    rw [hv] at ho hc ⊢
    have := vl_len (k := 14) (m := (t.length : Int) + 1) (d := 4) (by omega) (by omega) (by first | omega | (simp; omega)) (t ++ [0]) (by simp [le32_length]; omega) o c (by simpa [le32_length] using hc) ho
    simpa [le32_length] using this
  · have hv : (Tr.mk 15 t m n bi hi bb kn ks).val = le32 (4 + (txtL t).length + ((Ks.body ks).length + 5)) ++ (txtL t ++ (le32 ((Ks.body ks).length + 5) ++ (Ks.body ks ++ [0]))) := by simp [Tr.val]
    rw [hv] at ho hc ⊢
    have htl := txtL_length t
    have := vl_len (k := 15) (m := 4 + (txtL t).length + ((Ks.body ks).length + 5)) (d := 0) (by omega) (by omega) (by omega) (txtL t ++ (le32 ((Ks.body ks).length + 5) ++ (Ks.body ks ++ [0]))) (by simp [le32_length]; omega) o c (by simpa [le32_length] using hc) ho
    simpa [le32_length] using this
  · exact fixed 4 (by simp [Tr.val, le64_length, le32_length]) fun hE => run84 (Nat.le_of_ble_eq_true rfl) (by simp)
  · exact fixed 8 (by simp [Tr.val, le64_length, le32_length]) fun hE => run84 (Nat.le_of_ble_eq_true rfl) (by simp)
  · exact fixed 8 (by simp [Tr.val, le64_length, le32_length]) fun hE => run84 (Nat.le_of_ble_eq_true rfl) (by simp)
  · exact fixed 16 (by simp [Tr.val, le64_length, le32_length]) fun hE => run84 (Nat.le_of_ble_eq_true rfl) (by simp)
  · exact fixed 0 (by simp [Tr.val, le64_length, le32_length]) fun hE => run84 (Nat.le_of_ble_eq_true rfl) (by simp)
  · exact fixed 0 (by simp [Tr.val, le64_length, le32_length]) fun hE => run84 (Nat.le_of_ble_eq_true rfl) (by simp)
end Go.Proofs.YtdnfnobgeddbfaaDoor.Abs
