/- Four bytes reserved, a length written. -/
import Derived.Test.YtfamhjnjlgdglaaA28
import Derived.Test.YtfamhjnjlgdglaaFFnDocReserve
namespace Go.Proofs.Ytfamhjnjlgdglaa.Abs
set_option linter.all false
open Go.Proofs
set_option linter.unusedVariables false
set_option linter.unusedSimpArgs false
set_option maxRecDepth 100000
set_option maxHeartbeats 4000000

theorem u32_bytes (v : Int) (h0 : 0 ≤ v) (h1 : v < 4294967296) : True := trivial

theorem c_PutUint32 (h : H) (i k n : Nat) (l : List UInt8) (v : Int) (hg : h.get i = some (.row 5 1 (byteCells l))) (hn : 4 ≤ n) (hk : k + n ≤ l.length) :
    callω fns 39 [.agg [], .hsl i k 5 1 n, .int .u32 v] h = some (.tup [], h.set i (.row 5 1 (byteCells (setL l k (le32 v))))) := by
  refine run39 (Nat.le_of_ble_eq_true rfl) ?_
  have g3 : (3 : Int) < n := by omega
  have g2 : (2 : Int) < n := by omega
  have g1 : (1 : Int) < n := by omega
  have g0 : (0 : Int) < n := by omega
  have e3 := byteCells_get l (k + 3) (by omega)
  have h8 : v.fdiv 256 = v / 256 := shr_i64 v 8
  have h16 : v.fdiv 65536 = v / 65536 := shr_i64 v 16
  have h24 : v.fdiv 16777216 = v / 16777216 := shr_i64 v 24
  have f0 : 0 < n := by omega
  have l1 : k + 1 ≤ l.length := by omega
  have l2 : k + 1 + 1 ≤ l.length := by omega
  have l3 : k + 2 + 1 ≤ l.length := by omega
  have l4 : k + 3 + 1 ≤ l.length := by omega
  have c1 := setL_length l k [byteOf v] (by simp; omega)
  have c2 := setL_length (setL l k [byteOf v]) (k + 1) [byteOf (v / 256)] (by simp; omega)
  have c3 := setL_length (setL (setL l k [byteOf v]) (k + 1) [byteOf (v / 256)]) (k + 2) [byteOf (v / 65536)] (by simp; omega)
  have c4 : setL (setL (setL (setL l k [byteOf v]) (k + 1) [byteOf (v / 256)]) (k + 2) [byteOf (v / 65536)]) (k + 3) [byteOf (v / 16777216)] = setL l k (le32 v) := by
    have a1 := setL_setL l k [byteOf v] [byteOf (v / 256)] (by simp; omega)
    have a2 := setL_setL l k [byteOf v, byteOf (v / 256)] [byteOf (v / 65536)] (by simp; omega)
    have a3 := setL_setL l k [byteOf v, byteOf (v / 256), byteOf (v / 65536)] [byteOf (v / 16777216)] (by simp; omega)
    simp at a1 a2 a3
    rw [a1, a2, a3]; rfl
  simp [ixV, g3, g2, g1, f0, hg, e3, ldO, H.set_get hg, -splice, aShift, IntKind.bits, h8, h16, h24, u8_wrap, stO, H.get_set_same hg, splice_byte, AV.isOwn, l1, l2, l3, l4, c1, c2, c3, c4]

theorem le32_u32 (n : Int) : le32 (IntKind.u32.wrap n) = le32 n := by
  have e : IntKind.u32.wrap n = n % 4294967296 := by simp [IntKind.wrap, IntKind.signed, IntKind.bits]
  rw [e]
  unfold le32 byteOf
  have h1 : n % 4294967296 % 256 = n % 256 := by omega
  have h2 : n % 4294967296 / 256 % 256 = n / 256 % 256 := by omega
  have h3 : n % 4294967296 / 65536 % 256 = n / 65536 % 256 := by omega
  have h4 : n % 4294967296 / 16777216 % 256 = n / 16777216 % 256 := by omega
  rw [h1, h2, h3, h4]

theorem c_UpdateLength (h : H) (l : List UInt8) (i n : Int) (h0 : 0 ≤ i) (h1 : i + 4 ≤ l.length) (hl : l.length ≤ 1073741824) :
    Val (callω fns 30 [(BS.own true l).av 5, .int .i32 i, .int .i32 n] h) ((BS.own true (setL l i.toNat (le32 n))).av 5) := by
  have hp := c_PutUint32 (h.push (.row 5 1 (byteCells l))) h.n i.toNat (l.length - i.toNat) l (IntKind.u32.wrap n) (by simp) (by omega) (by omega)
  rw [le32_u32] at hp
  have hi : i ≤ l.length := by omega
  have e1 : (setL l i.toNat (le32 n)).length = l.length := setL_length _ _ _ (by rw [le32_length]; omega)
  refine .of (runs30 (Nat.le_of_ble_eq_true rfl) ?_)
  simp [BS.av, slSl, h0, hi, hp, e1, Run_some']

theorem BS.mk_ne {l : List UInt8} (h : l ≠ []) : BS.mk l = .own true l := by cases l <;> first | exact absurd rfl h | rfl

theorem c_own (o : Option (List UInt8)) (hl : (bl o).length ≤ 1073741824) : ∀ h : H, callω fns 29 [bAV 5 o] h = some ((BS.mk (bl o)).av 5, h) := by
  intro h
  refine run29 (Nat.le_of_ble_eq_true rfl) ?_
  have h1 : ∀ h : H, apV h 5 1 1 false (.slice .nil 0 1 []) (bAV 5 o) = some ((BS.mk (bl o)).av 5) := fun h => by
    have := apV_b (hp := h) (e := 5) (o := o) (b := .nil) (by simp [BS.l, tooLong]; omega)
    simpa [BS.av_nil, BS.nil_app] using this
  simp [h1]
theorem c_docCopy (o : Option (List UInt8)) (hl : (bl o).length ≤ 1073741824) : ∀ h : H, callω fns 12 [bAV 5 o] h = some ((BS.own true (bl o)).av 5, h) := by
  intro h
  refine run12 (Nat.le_of_ble_eq_true rfl) ?_
  have h1 : ∀ h : H, apV h 5 1 1 false (.slice (.own true) 5 1 []) (bAV 5 o) = some ((BS.own true (bl o)).av 5) := fun h => by
    have := apV_b (hp := h) (e := 5) (o := o) (b := .own true []) (by simp [BS.l, tooLong]; omega)
    exact this
  simp [h1]
theorem c_implUpdateLength (h : H) (l : List UInt8) (i n : Int) (h0 : 0 ≤ i) (h1 : i + 4 ≤ l.length) (hl : l.length ≤ 1073741824) :
    Val (callω fns 14 [bAV 5 (some l), .int .i64 i, .int .i64 n] h) ((BS.own true (setL l i.toNat (le32 n))).av 5) := by
  have hne : l ≠ [] := by intro e; subst e; simp at h1; omega
  have ho := c_own (some l) (by simpa [bl] using hl)
  simp only [bl, BS.mk_ne hne] at ho
  have hi : IntKind.i32.wrap i = i := by simp [IntKind.wrap, IntKind.signed, IntKind.bits]; omega
  obtain ⟨h1, hu⟩ := c_UpdateLength h.mask l i (IntKind.i32.wrap n) h0 h1 hl
  have hle : le32 (IntKind.i32.wrap n) = le32 n := by
    rw [← le32_u32, ← le32_u32 n]; congr 1; simp [IntKind.wrap, IntKind.signed, IntKind.bits]; omega
  rw [hle] at hu
  refine .of (runs14 (Nat.le_of_ble_eq_true rfl) ?_)
  simp [ho, hi, hu, noHeap_old]
theorem c_ReserveLength (b : BS) (hl : b.l.length ≤ 1073741824) : ∀ h : H, callω fns 28 [b.av 5] h = some (.tup [.int .i32 b.l.length, (b.app [0, 0, 0, 0]).av 5], h) := by
  intro h
  refine run28 (Nat.le_of_ble_eq_true rfl) ?_
  have h1 : ∀ h : H, apV h 5 1 1 false (b.av 5) (.slice (.own true) 5 1 [.int .u8 0, .int .u8 0, .int .u8 0, .int .u8 0]) = some ((b.app [0, 0, 0, 0]).av 5) := fun h => by
    have := apV_l4 (hp := h) (e := 5) (f := true) (b := b) (c1 := 0) (c2 := 0) (c3 := 0) (c4 := 0) (by simp [tooLong]; omega)
    exact this
  have hi : IntKind.i32.wrap (b.l.length : Int) = b.l.length := by simp [IntKind.wrap, IntKind.signed, IntKind.bits]; omega
  simp [h1, hi]
theorem c_implReserveLength (o : Option (List UInt8)) (hl : (bl o).length ≤ 1073741824) : ∀ h : H, callω fns 11 [bAV 5 o] h = some (.tup [.int .i64 (bl o).length, (BS.mk (bl o ++ [0, 0, 0, 0])).av 5], h) := by
  intro h
  refine run11 (Nat.le_of_ble_eq_true rfl) ?_
  have ho := c_own o hl
  have hr := c_ReserveLength (BS.mk (bl o)) (by simpa using hl)
  rw [BS.mk_app, BS.l_mk] at hr
  have hw : IntKind.i64.wrap ((bl o).length : Int) = (bl o).length := wrap_i64 (by omega) (by omega)
  simp [ho, hr, exV, hw]
theorem c_DocInt32 (b : BS) (n : Int) (hb : b.l.length ≤ 1073741824) : ∀ h : H, callω fns 13 [b.av 5, .int .i64 n] h = some ((b.app (le32 n)).av 5, h) := by
  intro h
  refine run13 (Nat.le_of_ble_eq_true rfl) ?_
  have h8 : n.fdiv 256 = n / 256 := shr_i64 n 8
  have h16 : n.fdiv 65536 = n / 65536 := shr_i64 n 16
  have h24 : n.fdiv 16777216 = n / 16777216 := shr_i64 n 24
  have hap : ∀ h : H, apV h 5 1 1 false (b.av 5) (.slice (.own true) 5 1 [.int .u8 ((byteOf n).toNat : Int), .int .u8 ((byteOf (n / 256)).toNat : Int), .int .u8 ((byteOf (n / 65536)).toNat : Int), .int .u8 ((byteOf (n / 16777216)).toNat : Int)]) = some ((b.app (le32 n)).av 5) := fun h => apV_l4 (by simp only [tooLong]; omega)
  simp [aShift, IntKind.bits, u8_wrap, hap, h8, h16, h24]

theorem law_FnDocReserve (o : Option (List UInt8)) (_ : (bl o).length ≤ reachBytes) (index : Int) (_ : IntKind.i64.min ≤ index) (_ : index ≤ IntKind.i64.max) (length : Int) (_ : IntKind.i64.min ≤ length) (_ : length ≤ IntKind.i64.max) (h : H) : ∃ h', callω fns 4 [bAV 5 o, .int .i64 index, .int .i64 length] h = some (.bool true, h') := by
  refine Val.of (runs4 (Nat.le_of_ble_eq_true rfl) ?_)
  by_cases a1 : 2147483647 < ((bl o).length : Int)
  · simp [a1]
  by_cases a2 : 1000 < ((bl o).length : Int)
  · simp [a1, a2]
  by_cases a3 : length < -2147483648
  · simp [a1, a2, a3]
  by_cases a4 : 2147483648 ≤ length
  · simp [a1, a2, a3, a4]
  have hC := c_docCopy o (by omega)
  have hR := c_implReserveLength (some (bl o)) (by simp only [bl_some]; omega)
  simp only [bl_some] at hR
  rw [BS.mk_ne (by simp)] at hR
  obtain ⟨l, hb⟩ : ∃ l, bl o = l := ⟨_, rfl⟩
  rw [hb] at hC hR a1 a2
  have s1 := sl_b (e := 5) (l := l ++ [0, 0, 0, 0]) (i := 0) (j := l.length) (by omega) (by omega) (by simp; omega)
  simp at s1
  have w4 : IntKind.i64.wrap ((l.length : Int) + 4) = l.length + 4 := wrap_i64 (by omega) (by omega)
  simp [hb, a1, a2, a3, a4, hC, hR, BS.opt_own, exV, BS.l, w4, s1]
  have hap : ∀ h : H, apV h 5 1 1 false ((BS.own true l).av 5) (.slice (.own true) 5 1 [.int .u8 1, .int .u8 2, .int .u8 3, .int .u8 4]) = some ((BS.own true (l ++ [1, 2, 3, 4])).av 5) := fun h =>
    apV_l4 (b := .own true l) (f := true) (c1 := 1) (c2 := 2) (c3 := 3) (c4 := 4) (by simp only [BS.l, tooLong]; omega)
  have fin : ∀ i : Int, 0 ≤ i → i ≤ l.length → ∃ m,
      slSl 1 (bAV 5 (some (l ++ [1, 2, 3, 4]))) (some 0) (some i) = some (bAV 5 (some ((l ++ [1, 2, 3, 4]).take m))) ∧
      slSl 1 (bAV 5 (some (l ++ [1, 2, 3, 4]))) (some (i + 4)) (some ((l.length : Int) + 4)) = some (bAV 5 (some ((l ++ [1, 2, 3, 4]).drop (m + 4)))) ∧
      IntKind.i64.wrap (i + 4) = i + 4 ∧
      (∀ h, callω fns 12 [bAV 5 (some ((l ++ [1, 2, 3, 4]).take m))] h = some ((BS.own true ((l ++ [1, 2, 3, 4]).take m)).av 5, h)) ∧
      (∀ h, callω fns 13 [(BS.own true ((l ++ [1, 2, 3, 4]).take m)).av 5, .int .i64 length] h = some ((BS.own true ((l ++ [1, 2, 3, 4]).take m ++ le32 length)).av 5, h)) ∧
      (∀ h, apV h 5 1 1 false ((BS.own true ((l ++ [1, 2, 3, 4]).take m ++ le32 length)).av 5) (bAV 5 (some ((l ++ [1, 2, 3, 4]).drop (m + 4)))) = some ((BS.own true (setL (l ++ [1, 2, 3, 4]) m (le32 length))).av 5)) ∧
      ∃ h', callω fns 14 [bAV 5 (some (l ++ [1, 2, 3, 4])), .int .i64 i, .int .i64 length] h.mask = some ((BS.own true (setL (l ++ [1, 2, 3, 4]) m (le32 length))).av 5, h') := by
    intro i hi0 hi1
    refine ⟨i.toNat, ?_, ?_, wrap_i64 (by omega) (by omega), ?_, ?_, ?_, ?_⟩
    · have := sl_b (e := 5) (l := l ++ [1, 2, 3, 4]) (i := 0) (j := i) (by omega) (by omega) (by simp; omega)
      simpa using this
    · have := sl_b (e := 5) (l := l ++ [1, 2, 3, 4]) (i := i + 4) (j := (l.length : Int) + 4) (by omega) (by omega) (by simp)
      rw [this, show (i + 4).toNat = i.toNat + 4 by omega, List.take_of_length_le (by simp; omega)]
    · exact c_docCopy (some ((l ++ [1, 2, 3, 4]).take i.toNat)) (by simp; omega)
    · exact c_DocInt32 (.own true ((l ++ [1, 2, 3, 4]).take i.toNat)) length (by simp [BS.l]; omega)
    · intro h
      have := apV_b (hp := h) (e := 5) (o := some ((l ++ [1, 2, 3, 4]).drop (i.toNat + 4))) (b := .own true ((l ++ [1, 2, 3, 4]).take i.toNat ++ le32 length)) (by simp [BS.l, tooLong, le32_length]; omega)
      simpa [BS.app, setL, le32_length] using this
    · exact c_implUpdateLength h.mask (l ++ [1, 2, 3, 4]) i length hi0 (by simp; omega) (by simp; omega)
  by_cases i1 : index < 0
  · obtain ⟨m, f1, f2, f3, f4, f5, f6, h', f7⟩ := fin l.length (by omega) (by omega)
    simp [i1, hb, hC, hap, BS.opt_own, f1, f2, f3, f4, f5, f6, f7, noHeap_old]
  by_cases i2 : (l.length : Int) < index
  · obtain ⟨m, f1, f2, f3, f4, f5, f6, h', f7⟩ := fin l.length (by omega) (by omega)
    simp [i1, i2, hb, hC, hap, BS.opt_own, f1, f2, f3, f4, f5, f6, f7, noHeap_old]
  obtain ⟨m, f1, f2, f3, f4, f5, f6, h', f7⟩ := fin index (by omega) (by omega)
  simp [i1, i2, hb, hC, hap, BS.opt_own, f1, f2, f3, f4, f5, f6, f7, noHeap_old]
end Go.Proofs.Ytfamhjnjlgdglaa.Abs
