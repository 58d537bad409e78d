/- What the law's function FnBindInt64 computes. -/
import Derived.Test.YtdnfnobgeddbfaaEDoc5
import Derived.Test.YtdnfnobgeddbfaaERd32
import Derived.Test.YtdnfnobgeddbfaaERd64
namespace Go.Proofs.Ytdnfnobgeddbfaa.Abs
set_option linter.all false
open Go.Proofs
set_option linter.unusedVariables false
set_option linter.unusedSimpArgs false
set_option maxRecDepth 100000
set_option maxHeartbeats 8000000

theorem c_bindRight (v : Tr) (hW : v.wf) : callω fns 5 [.agg (v.cells 5 42)] = some (.bool (v.fine 1000 65536)) := by
  refine run5 (Nat.le_of_ble_eq_true rfl) ?_
  have h1 := c_docCount v 1000 hW (by omega) (by omega)
  have h2 := c_DocRight v hW
  have h3 := c_docBytes v hW
  unfold Tr.fine
  simp only [Int.cast_ofNat_Int]
  generalize hc : v.count 1000 = c at *
  generalize hr : v.right 200 = cr at *
  generalize hn : IntKind.i64.wrap v.nb = cn at *
  clear hc hr hn
  cases v with
  | mk k t m n bi hi b kn ks =>
  simp only [Tr.cells] at h1 h2 h3 ⊢
  by_cases c3 : c ≤ 1000
  case neg => simp [h1, c3]
  cases cr
  · simp [h1, h2, c3]
  · simp [h1, h2, h3, c3]

theorem c_zzFits1 (v : Tr) : ∃ b, callω fns 4 [.agg (v.cells 5 42)] = some (.bool b) := by
  cases v with
  | mk k t m n bi hi b kn ks =>
  simp only [Tr.cells]
  by_cases a1 : 2147483647 < (t.length : Int)
  · exact ⟨false, run4 (Nat.le_of_ble_eq_true rfl) (by simp [a1])⟩
  by_cases a2 : 2147483647 < (m.length : Int)
  · exact ⟨false, run4 (Nat.le_of_ble_eq_true rfl) (by simp [a1, a2])⟩
  by_cases a3 : 2147483647 < ((bl b).length : Int)
  · exact ⟨false, run4 (Nat.le_of_ble_eq_true rfl) (by simp [a1, a2, a3])⟩
  by_cases a4 : 2147483647 < (ks.len : Int)
  · exact ⟨false, run4 (Nat.le_of_ble_eq_true rfl) (by simp [a1, a2, a3, a4])⟩
  · exact ⟨true, run4 (Nat.le_of_ble_eq_true rfl) (by simp [a1, a2, a3, a4])⟩

/-- A raw value: its kind and its bytes. -/
def rawV (k : IntKind) (n : Int) (o : Option (List UInt8)) : AV := .agg [.int k n, bAV 5 o]

theorem c_BindRaw (v : Tr) (hW : v.wf) (hs : v.sz ≤ 1073740000) : callω fns 7 [.agg (v.cells 5 42)] = some (rawV .i64 v.kind (BS.mk v.val).opt) := by
  refine run7 (Nat.le_of_ble_eq_true rfl) ?_
  have h := c_DocValue v hW hs
  generalize v.val = vl at *
  cases v with
  | mk k t m n bi hi b kn ks =>
  simp only [Tr.cells, Tr.kind] at h ⊢
  simp [h, rawV]

theorem c_some (n : Int) (o : Option (List UInt8)) : callω fns 11 [.agg [.int .i64 n, bAV 5 o]] = some (rawV .u8 (IntKind.u8.wrap n) o) := by
  refine run11 (Nat.le_of_ble_eq_true rfl) ?_
  simp [rawV]
theorem c_convertToCoreValue (n : Int) (o : Option (List UInt8)) : callω fns 15 [.agg [.int .u8 n, bAV 5 o]] = some (rawV .u8 n o) := by
  refine run15 (Nat.le_of_ble_eq_true rfl) ?_
  simp [rawV]
theorem c_IsNumber (n : Int) (o : Option (List UInt8)) : callω fns 25 [.agg [.int .u8 n, bAV 5 o]] = some (.bool (decide (n = 1) || (decide (n = 16) || (decide (n = 18) || decide (n = 19))))) := by
  refine run25 (Nat.le_of_ble_eq_true rfl) ?_
  by_cases a1 : n = 1
  · simp [a1]
  simp [a1]
  by_cases a2 : n = 16
  · simp [a2]
  simp [a2]
  by_cases a3 : n = 18
  · simp [a3]
  simp [a3]
  by_cases a4 : n = 19 <;> simp [a4]
theorem c_ReadInt32 (a b c d : UInt8) (r : List UInt8) : callω fns 27 [bAV 5 (some (a :: b :: c :: d :: r))] = some (.tup [.int .i32 (rd32 a b c d), bAV 5 (some r), .bool true]) := by
  refine run27 (Nat.le_of_ble_eq_true rfl) ?_
  simp [c_ReadI32, exV]
theorem c_ReadInt64 (a b c d e f g h : UInt8) (r : List UInt8) : callω fns 28 [bAV 5 (some (a :: b :: c :: d :: e :: f :: g :: h :: r))] = some (.tup [.int .i64 (rd64 a b c d e f g h), bAV 5 (some r), .bool true]) := by
  refine run28 (Nat.le_of_ble_eq_true rfl) ?_
  simp [c_ReadI64, exV]

section
variable {k n : Int} {o : Option (List UInt8)} {x : AV}
theorem coreAs_of (h : callω fns 16 [.agg [.int .u8 (IntKind.u8.wrap k), bAV 5 o]] = some (.tup [.int .i64 n, x])) (hx : x = .bool true ∨ x = .bool false) :
    callω fns 6 [.agg [.int .i64 k, bAV 5 o]] = some (.tup [.int .i64 n, x]) := by
  have h2 : callω fns 12 [.agg [.int .u8 (IntKind.u8.wrap k), bAV 5 o]] = some (.tup [.int .i64 n, x]) := by
    refine run12 (Nat.le_of_ble_eq_true rfl) ?_
    rcases hx with rfl | rfl <;> simp [c_convertToCoreValue, rawV, h, exV]
  refine run6 (Nat.le_of_ble_eq_true rfl) ?_
  rcases hx with rfl | rfl <;> simp [c_some, rawV, h2, exV]
end
theorem as_none {n : Int} {o : Option (List UInt8)} (h : n ≠ 1 ∧ n ≠ 16 ∧ n ≠ 18 ∧ n ≠ 19) : callω fns 16 [.agg [.int .u8 n, bAV 5 o]] = some (.tup [.int .i64 0, .bool false]) := by
  refine run16 (Nat.le_of_ble_eq_true rfl) ?_
  simp [c_IsNumber, h]
theorem as_32 (a b c d : UInt8) (r : List UInt8) : callω fns 16 [.agg [.int .u8 16, bAV 5 (some (a :: b :: c :: d :: r))]] = some (.tup [.int .i64 (IntKind.i64.wrap (rd32 a b c d)), .bool true]) := by
  refine run16 (Nat.le_of_ble_eq_true rfl) ?_
  simp [c_IsNumber, c_ReadInt32, exV]
theorem as_64 (a b c d e f g h : UInt8) (r : List UInt8) : callω fns 16 [.agg [.int .u8 18, bAV 5 (some (a :: b :: c :: d :: e :: f :: g :: h :: r))]] = some (.tup [.int .i64 (rd64 a b c d e f g h), .bool true]) := by
  refine run16 (Nat.le_of_ble_eq_true rfl) ?_
  simp [c_IsNumber, c_ReadInt64, exV]

theorem law_FnBindInt64 (v : Tr) (hW : v.wf) : callω fns 3 [.agg (v.cells 5 42)] = some (.bool true) := by
  refine run3 (Nat.le_of_ble_eq_true rfl) ?_
  obtain ⟨bz, hz⟩ := c_zzFits1 v
  have hR := c_bindRight v hW
  cases hf : v.fine 1000 65536
  · rw [hf] at hR
    cases v with
    | mk k t m n bi hi b kn ks =>
    simp only [Tr.cells] at hz hR ⊢
    cases bz <;> simp [hz, hR]
  rw [hf] at hR
  obtain ⟨hsz, hright, _, _⟩ := fine_sz (by omega) hW hf
  have hB := c_BindRaw v hW (by omega)
  cases v with
  | mk k t m n bi hi b kn ks =>
  have hknown : knownK k = true ∧ (k = 16 → -2147483648 ≤ n ∧ n < 2147483648) := by
    simp only [Tr.right, Bool.and_eq_true] at hright
    refine ⟨hright.1, fun hk => ?_⟩
    have := hright.2.2.2
    simpa [hk] using this
  have hval16 : k = 16 → (Tr.mk k t m n bi hi b kn ks).val = le32 n := fun hk => by simp [Tr.val, hk]
  have hval18 : k = 18 → (Tr.mk k t m n bi hi b kn ks).val = le64 n := fun hk => by simp [Tr.val, hk]
  simp only [Tr.wf] at hW
  have hn1 : -9223372036854775808 ≤ n := by have := hW.2.2.2.2.1; simpa [IntKind.min, IntKind.signed, IntKind.bits] using this
  have hn2 : n ≤ 9223372036854775807 := by have := hW.2.2.2.2.2.1; simpa [IntKind.max, IntKind.signed, IntKind.bits] using this
  have hwk : IntKind.u8.wrap k = k := by
    have := hknown.1
    simp [knownK] at this
    simp [IntKind.wrap, IntKind.signed, IntKind.bits]; omega
  simp only [Tr.cells, Tr.kind, rawV] at hz hR hB ⊢
  generalize (Tr.mk k t m n bi hi b kn ks).val = vl at *
  cases bz
  · simp [hz]
  simp [hz, hR]
  by_cases k1 : k = 1
  · simp [k1]
  simp [k1]
  by_cases k19 : k = 19
  · simp [k19]
  by_cases k16 : k = 16
  · have e : (BS.mk vl).opt = some [byteOf n, byteOf (n / 256), byteOf (n / 65536), byteOf (n / 16777216)] := by rw [hval16 k16]; rfl
    have h := coreAs_of (k := k) (by rw [hwk, k16]; exact as_32 (byteOf n) (byteOf (n / 256)) (byteOf (n / 65536)) (byteOf (n / 16777216)) []) (.inl rfl)
    rw [rd32_le32 (hknown.2 k16).1 (hknown.2 k16).2, wrap_i64 hn1 hn2] at h
    rw [e] at hB
    subst k16
    simp [hB, h, exV]
  by_cases k18 : k = 18
  · have e : (BS.mk vl).opt = some [byteOf n, byteOf (n / 2 ^ 8), byteOf (n / 2 ^ 16), byteOf (n / 2 ^ 24), byteOf (n / 2 ^ 32), byteOf (n / 2 ^ 40), byteOf (n / 2 ^ 48), byteOf (n / 2 ^ 56)] := by rw [hval18 k18]; rfl
    have h := coreAs_of (k := k) (by rw [hwk, k18]; exact as_64 (byteOf n) (byteOf (n / 2 ^ 8)) (byteOf (n / 2 ^ 16)) (byteOf (n / 2 ^ 24)) (byteOf (n / 2 ^ 32)) (byteOf (n / 2 ^ 40)) (byteOf (n / 2 ^ 48)) (byteOf (n / 2 ^ 56)) []) (.inl rfl)
    rw [rd64_le64 hn1 hn2] at h
    rw [e] at hB
    subst k18
    simp only [Int.reducePow] at h hB
    simp [hB, h, exV]
  · have h := coreAs_of (k := k) (o := (BS.mk vl).opt) (by rw [hwk]; exact as_none ⟨k1, k16, k18, k19⟩) (.inr rfl)
    simp [hB, h, exV, k19, k16, k18]
end Go.Proofs.Ytdnfnobgeddbfaa.Abs
