/- Values and elements of any kind appended. -/
import Derived.Test.YtcodfehgnjplcaaEApp
import Derived.Test.YtcodfehgnjplcaaEDoc5
import Derived.Test.YtcodfehgnjplcaaEId
namespace Go.Proofs.Ytcodfehgnjplcaa.Abs
set_option linter.all false
open Go.Proofs
set_option linter.unusedVariables false
set_option linter.unusedSimpArgs false
set_option maxRecDepth 100000
set_option maxHeartbeats 8000000

theorem c_DocStart (b : BS) (hl : b.l.length ≤ 1073741824) : ∀ hE : H, callω fns 61 [b.av 5] hE = some (.tup [.int .i32 b.l.length, (b.app [0, 0, 0, 0]).av 5], hE) := by
  intro hE
  refine run61 (Nat.le_of_ble_eq_true rfl) ?_
  simp [c_ReserveLength b hl, ex2_0, ex2_1]
theorem c_ArrStart (b : BS) (hl : b.l.length ≤ 1073741824) : ∀ hE : H, callω fns 62 [b.av 5] hE = some (.tup [.int .i32 b.l.length, (b.app [0, 0, 0, 0]).av 5], hE) := by
  intro hE
  refine run62 (Nat.le_of_ble_eq_true rfl) ?_
  simp [c_ReserveLength b hl, ex2_0, ex2_1]
theorem c_DocEnd (L : List UInt8) (at' : Nat) (h1 : at' + 4 ≤ L.length) (hl : L.length ≤ 1000000000) : ∀ hE : H, callω fns 30 [(BS.own true L).av 5, .int .i32 at'] hE =
    some (.tup [(BS.own true (setL (L ++ [0]) at' (le32 (((L.length + 1 - at' : Nat)) : Int)))).av 5, .nilI], hE) := by
  intro hE
  refine run30 (Nat.le_of_ble_eq_true rfl) ?_
  have w1 : IntKind.i64.wrap (at' : Int) = at' := wrap_i64 (by omega) (by omega)
  have w2 : IntKind.i64.wrap ((L.length : Int) - 4) = L.length - 4 := wrap_i64 (by omega) (by omega)
  have g1 : ¬ ((L.length : Int) - 4 < (at' : Int)) := by omega
  have hap := apV_one (b := .own true L) (e := 5) 0 (by omega) (by omega) (by simp [BS.l, tooLong]; omega)
  have e0 : byteOf 0 = 0 := rfl
  rw [e0] at hap
  have hu := c_UpdateLength (L ++ [0]) (at' : Int) ((L.length + 1 - at' : Nat) : Int) (by omega) (by simp; omega) (by simp; omega)
  have hs : ∀ h : H, slSl h 1 ((BS.own true (L ++ [0])).lv 5) (some (at' : Int)) (some ((L.length : Int) + 1)) = some (.slice .hdr 5 1 (byteCells ((L ++ [0]).drop at'))) := fun h => by
    have hb : (byteCells (L ++ [0])).length = L.length + 1 := by simp [byteCells]
    have c1 : (0 : Int) ≤ (at' : Int) ∧ (at' : Int) ≤ (L.length : Int) + 1 ∧ (L.length : Int) + 1 ≤ (((byteCells (L ++ [0])).length / 1 : Nat) : Int) ∧ (Cls.hdr = Cls.nil ∨ 1 = 1) := ⟨by omega, by omega, by rw [hb]; simp, .inr rfl⟩
    show (if (0 : Int) ≤ (at' : Int) ∧ (at' : Int) ≤ (L.length : Int) + 1 ∧ (L.length : Int) + 1 ≤ (((byteCells (L ++ [0])).length / 1 : Nat) : Int) ∧ (Cls.hdr = Cls.nil ∨ 1 = 1) then _ else none) = _
    rw [if_pos c1]
    congr 2
    rw [Int.toNat_natCast, Nat.mul_one, show ((L.length : Int) + 1).toNat = L.length + 1 by omega, List.take_of_length_le (by rw [List.length_drop, hb]; omega)]
    simp [byteCells, List.map_drop]
  have hl2 : aLen false (.slice .hdr 5 1 (byteCells ((L ++ [0]).drop at'))) = some (.int .i64 ((L.length + 1 - at' : Nat) : Int)) := by simp [aLen, byteCells]
  have w3 : IntKind.i32.wrap ((L.length + 1 - at' : Nat) : Int) = ((L.length + 1 - at' : Nat) : Int) := i32_of (by omega) (by omega)
  have hlen : (BS.own true L).l.length = L.length := rfl
  have hlen2 : (BS.own true (L ++ [0])).l.length = L.length + 1 := by simp [BS.l]
  have happ : (BS.own true L).app [0] = BS.own true (L ++ [0]) := rfl
  rw [happ] at hap
  simp only [Int.toNat_natCast] at hu
  simp [w1, w2, g1, hap, hs, hl2, w3, hu, hlen, hlen2, -ev_len_slice]
theorem c_ArrEnd (L : List UInt8) (at' : Nat) (h1 : at' + 4 ≤ L.length) (hl : L.length ≤ 1000000000) : ∀ hE : H, callω fns 31 [(BS.own true L).av 5, .int .i32 at'] hE =
    some (.tup [(BS.own true (setL (L ++ [0]) at' (le32 (((L.length + 1 - at' : Nat)) : Int)))).av 5, .nilI], hE) := by
  intro hE
  refine run31 (Nat.le_of_ble_eq_true rfl) ?_
  simp [c_DocEnd L at' h1 hl, ex2_0, ex2_1]
theorem doc_set (l body : List UInt8) : setL (l ++ [0, 0, 0, 0] ++ body ++ [0]) l.length (le32 (((l ++ [0, 0, 0, 0] ++ body).length + 1 - l.length : Nat) : Int)) = l ++ (le32 (body.length + 5) ++ (body ++ [0])) := by
  have h1 : (((l ++ [0, 0, 0, 0] ++ body).length + 1 - l.length : Nat) : Int) = (body.length : Int) + 5 := by simp; omega
  rw [h1]
  simp [setL, le32_length]
def BS.fr (b : BS) : Prop := b = .nil ∨ ∃ l, b = .own true l
theorem BS.fr_app {b : BS} (h : b.fr) {m : List UInt8} (hm : m ≠ []) : b.app m = .own true (b.l ++ m) := by
  rcases h with rfl | ⟨l, rfl⟩
  · cases m with
    | nil => exact absurd rfl hm
    | cons a r => rfl
  · rfl
theorem le64_split (n : Int) : le32 (IntKind.u32.wrap n) ++ le32 (IntKind.u32.wrap (n / 4294967296)) = le64 n := by
  rw [le32_u32, le32_u32]
  have h1 : n / 4294967296 / 256 = n / 2^40 := by rw [Int.ediv_ediv_of_nonneg (by omega)]; rfl
  have h2 : n / 4294967296 / 65536 = n / 2^48 := by rw [Int.ediv_ediv_of_nonneg (by omega)]; rfl
  have h3 : n / 4294967296 / 16777216 = n / 2^56 := by rw [Int.ediv_ediv_of_nonneg (by omega)]; rfl
  simp only [le32, le64, List.cons_append, List.nil_append, h1, h2, h3]
  rfl
theorem known_cases {k : Int} (h : knownK k = true) : k = 1 ∨ k = 2 ∨ k = 3 ∨ k = 4 ∨ k = 5 ∨ k = 6 ∨ k = 7 ∨ k = 8 ∨ k = 9 ∨ k = 10 ∨ k = 11 ∨ k = 12 ∨ k = 13 ∨ k = 14 ∨ k = 15 ∨ k = 16 ∨ k = 17 ∨ k = 18 ∨ k = 19 ∨ k = 127 ∨ k = 255 := by
  simp [knownK] at h; omega
theorem c_element_of {k : Int} {t m : List UInt8} {n bi hi : Int} {bb : Option (List UInt8)} {kn : Bool} {ks : Ks} (hW : (Tr.mk k t m n bi hi bb kn ks).wf) {d : Nat} (hR : (Tr.mk k t m n bi hi bb kn ks).right d = true)
    (happ : k = 3 ∨ k = 4 → ∀ hE : H, callω fns 36 [.slice .nil 0 1 [], .agg ((Tr.mk k t m n bi hi bb kn ks).cells 5 31)] hE = some ((BS.mk (Tr.mk k t m n bi hi bb kn ks).val).av 5, hE))
    (hsc : k = 15 → ∀ hE : H, callω fns 50 [.agg ((Tr.mk k t m n bi hi bb kn ks).cells 5 31)] hE = some ((BS.mk ks.doc).av 5, hE))
    (nm : List UInt8) (hp : plainL nm = true) (b : BS) (hs : b.l.length + nm.length + (Tr.mk k t m n bi hi bb kn ks).sz ≤ 900000000) : ∀ hE : H,
    callω fns 20 [b.av 5, .str nm, .agg ((Tr.mk k t m n bi hi bb kn ks).cells 5 31)] hE = some ((b.app (elemL nm (Tr.mk k t m n bi hi bb kn ks))).av 5, hE) := by
  intro hE
  simp only [Tr.right, Bool.and_eq_true] at hR
  obtain ⟨hk, hd, hbare, hR⟩ := hR
  have hb := Ks.body_le ks
  simp only [Tr.sz, Tr.nb, Tr.nodes] at hs
  simp only [Tr.wf] at hW
  have hbi : ((bi.toNat : Nat) : Int) = bi := Int.toNat_of_nonneg hW.2.2.2.2.2.2.1
  rcases known_cases hk with rfl | rfl | rfl | rfl | rfl | rfl | rfl | rfl | rfl | rfl | rfl | rfl | rfl | rfl | rfl | rfl | rfl | rfl | rfl | rfl | rfl
  · have a := c_AppendDoubleElement b nm hp bi.toNat (by omega)
    rw [hbi] at a
    refine run20 (Nat.le_of_ble_eq_true rfl) ?_
    simp [Tr.cells, a, elemL, Tr.val, Tr.kind]
  · have a := c_AppendStringElement b nm hp t (by omega)
    refine run20 (Nat.le_of_ble_eq_true rfl) ?_
    simp [Tr.cells, a, elemL, Tr.val, Tr.kind]
  · have a := c_AppendDocumentElement b nm hp (BS.mk (Tr.mk 3 t m n bi hi bb kn ks).val).opt (by have := Tr.val_le (Tr.mk 3 t m n bi hi bb kn ks); simp only [Tr.nb, Tr.nodes] at this; rw [BS.bl_opt, BS.l_mk]; omega)
    have e := happ (.inl rfl)
    simp only [Tr.cells] at e
    refine run20 (Nat.le_of_ble_eq_true rfl) ?_
    simp [Tr.cells, a, e, elemL, Tr.kind]
  · have a := c_AppendArrayElement b nm hp (BS.mk (Tr.mk 4 t m n bi hi bb kn ks).val).opt (by have := Tr.val_le (Tr.mk 4 t m n bi hi bb kn ks); simp only [Tr.nb, Tr.nodes] at this; rw [BS.bl_opt, BS.l_mk]; omega)
    have e := happ (.inr rfl)
    simp only [Tr.cells] at e
    refine run20 (Nat.le_of_ble_eq_true rfl) ?_
    simp [Tr.cells, a, e, elemL, Tr.kind]
  · simp at hR
    have w : IntKind.u8.wrap n = n := by simp [IntKind.wrap, IntKind.signed, IntKind.bits]; omega
    have a := c_AppendBinaryElement b nm hp bb n (by omega) (by omega) (by omega)
    refine run20 (Nat.le_of_ble_eq_true rfl) ?_
    simp [Tr.cells, a, w, elemL, Tr.val, Tr.kind]
  · have a := c_AppendUndefinedElement b nm hp (by omega)
    refine run20 (Nat.le_of_ble_eq_true rfl) ?_
    simp [Tr.cells, a, elemL, Tr.val, Tr.kind]
  · simp at hR
    cases bb with
    | none => simp [bl] at hR
    | some o =>
      simp only [bl] at hR
      have a := c_AppendObjectIDElement b nm hp o hR (by omega)
      have e := c_id (l := o) hR
      refine run20 (Nat.le_of_ble_eq_true rfl) ?_
      simp [Tr.cells, a, e, elemL, Tr.val, Tr.kind, bl]
  · simp at hR
    have a := c_AppendBooleanElement b nm hp (decide (n ≠ 0)) (by omega)
    refine run20 (Nat.le_of_ble_eq_true rfl) ?_
    rcases hR with rfl | rfl
    · simp at a
      simp [Tr.cells, a, elemL, Tr.val, Tr.kind, byteOf]
    · simp at a
      simp [Tr.cells, a, elemL, Tr.val, Tr.kind, byteOf]
  · have a := c_AppendDateTimeElement b nm hp n (by omega)
    refine run20 (Nat.le_of_ble_eq_true rfl) ?_
    simp [Tr.cells, a, elemL, Tr.val, Tr.kind]
  · have a := c_AppendNullElement b nm hp (by omega)
    refine run20 (Nat.le_of_ble_eq_true rfl) ?_
    simp [Tr.cells, a, elemL, Tr.val, Tr.kind]
  · simp at hR
    have a := c_AppendRegexElement b nm hp t m hR.1 hR.2 (by omega)
    refine run20 (Nat.le_of_ble_eq_true rfl) ?_
    simp [Tr.cells, a, elemL, Tr.val, Tr.kind]
  · simp at hR
    cases bb with
    | none => simp [bl] at hR
    | some o =>
      simp only [bl] at hR
      have a := c_AppendDBPointerElement b nm hp t o hR (by omega)
      have e := c_id (l := o) hR
      refine run20 (Nat.le_of_ble_eq_true rfl) ?_
      simp [Tr.cells, a, e, elemL, Tr.val, Tr.kind, bl]
  · have a := c_AppendJavaScriptElement b nm hp t (by omega)
    refine run20 (Nat.le_of_ble_eq_true rfl) ?_
    simp [Tr.cells, a, elemL, Tr.val, Tr.kind]
  · have a := c_AppendSymbolElement b nm hp t (by omega)
    refine run20 (Nat.le_of_ble_eq_true rfl) ?_
    simp [Tr.cells, a, elemL, Tr.val, Tr.kind]
  · have a := c_AppendCodeWithScopeElement b nm hp t (BS.mk ks.doc).opt (by rw [BS.bl_opt, BS.l_mk, Ks.doc_length]; omega)
    have e := hsc rfl
    simp only [Tr.cells] at e
    refine run20 (Nat.le_of_ble_eq_true rfl) ?_
    have hv : (Tr.mk 15 t m n bi hi bb kn ks).val = le32 (4 + (txtL t).length + (ks.doc.length)) ++ (txtL t ++ ks.doc) := by rw [Ks.doc_length]; simp [Tr.val, Ks.doc]
    rw [elemL, hv]
    simp [Tr.cells, a, e, Tr.kind]
  · simp at hR
    have w : IntKind.i32.wrap n = n := i32_of (by omega) (by omega)
    have a := c_AppendInt32Element b nm hp n (by omega)
    refine run20 (Nat.le_of_ble_eq_true rfl) ?_
    simp [Tr.cells, a, w, elemL, Tr.val, Tr.kind]
  · have a := c_AppendTimestampElement b nm hp (IntKind.u32.wrap (bi / 4294967296)) (IntKind.u32.wrap bi) (by omega)
    rw [le64_split] at a
    refine run20 (Nat.le_of_ble_eq_true rfl) ?_
    have sh : aShift .shr .u64 bi 32 = some (.int .u64 (bi / 4294967296)) := by
      have h1 := hW.2.2.2.2.2.2.1
      have h2 := hW.2.2.2.2.2.2.2.1
      simp only [show IntKind.u64.min = 0 by rfl, show IntKind.u64.max = 18446744073709551615 by rfl] at h1 h2
      simp [aShift, IntKind.bits]
      exact Int.fdiv_eq_ediv_of_nonneg _ (by omega)
    simp [Tr.cells, a, sh, elemL, Tr.val, Tr.kind]
  · have a := c_AppendInt64Element b nm hp n (by omega)
    refine run20 (Nat.le_of_ble_eq_true rfl) ?_
    simp [Tr.cells, a, elemL, Tr.val, Tr.kind]
  · have a := c_AppendDecimal128Element b nm hp hi bi (by omega)
    refine run20 (Nat.le_of_ble_eq_true rfl) ?_
    simp [Tr.cells, a, elemL, Tr.val, Tr.kind]
  · have a := c_AppendMaxKeyElement b nm hp (by omega)
    refine run20 (Nat.le_of_ble_eq_true rfl) ?_
    simp [Tr.cells, a, elemL, Tr.val, Tr.kind]
  · have a := c_AppendMinKeyElement b nm hp (by omega)
    refine run20 (Nat.le_of_ble_eq_true rfl) ?_
    simp [Tr.cells, a, elemL, Tr.val, Tr.kind]
end Go.Proofs.Ytcodfehgnjplcaa.Abs
