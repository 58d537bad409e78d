/- Values and elements appended. -/
import Derived.Test.YtcodfehgnjplcaaTR6
import Derived.Test.YtcodfehgnjplcaaECopy
namespace Go.Proofs.Ytcodfehgnjplcaa.Abs
set_option linter.all false
open Go.Proofs
set_option linter.unusedVariables false
set_option linter.unusedSimpArgs false
set_option maxRecDepth 100000
set_option maxHeartbeats 4000000

theorem apV_le64 {b : BS} {e : Nat} (n : Int) (h : b.l.length + 8 ≤ tooLong) : ∀ hp : H, apV hp e 1 1 false (b.av e) (.slice (.own true) e 1 [.int .u8 ((byteOf n).toNat : Int), .int .u8 ((byteOf (n / 256)).toNat : Int), .int .u8 ((byteOf (n / 65536)).toNat : Int), .int .u8 ((byteOf (n / 16777216)).toNat : Int), .int .u8 ((byteOf (n / 4294967296)).toNat : Int), .int .u8 ((byteOf (n / 1099511627776)).toNat : Int), .int .u8 ((byteOf (n / 281474976710656)).toNat : Int), .int .u8 ((byteOf (n / 72057594037927936)).toNat : Int)]) = some ((b.app (le64 n)).av e) := fun hp =>
  apV_bytes b (.lit true _ (le64 n) (by simp [le64, byteCells])) (by simpa [le64_length] using h)
theorem apV_le32 {b : BS} {e : Nat} (n : Int) (h : b.l.length + 4 ≤ tooLong) : ∀ hp : H, apV hp e 1 1 false (b.av e) (.slice (.own true) e 1 [.int .u8 ((byteOf n).toNat : Int), .int .u8 ((byteOf (n / 256)).toNat : Int), .int .u8 ((byteOf (n / 65536)).toNat : Int), .int .u8 ((byteOf (n / 16777216)).toNat : Int)]) = some ((b.app (le32 n)).av e) := fun hp =>
  apV_l4 (by simpa using h)
theorem apV_one {b : BS} {e : Nat} (n : Int) (h0 : 0 ≤ n) (h1 : n < 256) (h : b.l.length + 1 ≤ tooLong) : ∀ hp : H, apV hp e 1 1 false (b.av e) (.slice (.own true) e 1 [.int .u8 n]) = some ((b.app [byteOf n]).av e) := fun hp => by
  have := apV_l1 (hp := hp) (e := e) (f := true) (c := byteOf n) (b := b) h
  rw [byteOf_toNat, Int.emod_eq_of_lt h0 h1] at this; exact this

theorem c_A64u64 (b : BS) (n : Int) (hb : b.l.length ≤ 1073741000) : ∀ hE : H, callω fns 86 [b.av 5, .int .u64 n] hE = some ((b.app (le64 n)).av 5, hE) := by
  intro hE
  refine run86 (Nat.le_of_ble_eq_true rfl) ?_
  have hap := apV_le64 (b := b) (e := 5) n (by simp only [tooLong]; omega)
  have h8 : n.fdiv 256 = n / 256 := shr_i64 n 8
  have h16 : n.fdiv 65536 = n / 65536 := shr_i64 n 16
  have h24 : n.fdiv 16777216 = n / 16777216 := shr_i64 n 24
  have h32 : n.fdiv 4294967296 = n / 4294967296 := shr_i64 n 32
  have h40 : n.fdiv 1099511627776 = n / 1099511627776 := shr_i64 n 40
  have h48 : n.fdiv 281474976710656 = n / 281474976710656 := shr_i64 n 48
  have h56 : n.fdiv 72057594037927936 = n / 72057594037927936 := shr_i64 n 56
  simp [aShift, IntKind.bits, u8_wrap, hap, h8, h16, h24, h32, h40, h48, h56]

theorem c_A64i64 (b : BS) (n : Int) (hb : b.l.length ≤ 1073741000) : ∀ hE : H, callω fns 91 [b.av 5, .int .i64 n] hE = some ((b.app (le64 n)).av 5, hE) := by
  intro hE
  refine run91 (Nat.le_of_ble_eq_true rfl) ?_
  have hap := apV_le64 (b := b) (e := 5) n (by simp only [tooLong]; omega)
  have h8 : n.fdiv 256 = n / 256 := shr_i64 n 8
  have h16 : n.fdiv 65536 = n / 65536 := shr_i64 n 16
  have h24 : n.fdiv 16777216 = n / 16777216 := shr_i64 n 24
  have h32 : n.fdiv 4294967296 = n / 4294967296 := shr_i64 n 32
  have h40 : n.fdiv 1099511627776 = n / 1099511627776 := shr_i64 n 40
  have h48 : n.fdiv 281474976710656 = n / 281474976710656 := shr_i64 n 48
  have h56 : n.fdiv 72057594037927936 = n / 72057594037927936 := shr_i64 n 56
  simp [aShift, IntKind.bits, u8_wrap, hap, h8, h16, h24, h32, h40, h48, h56]

theorem c_A32u32 (b : BS) (n : Int) (hb : b.l.length ≤ 1073741000) : ∀ hE : H, callω fns 93 [b.av 5, .int .u32 n] hE = some ((b.app (le32 n)).av 5, hE) := by
  intro hE
  refine run93 (Nat.le_of_ble_eq_true rfl) ?_
  have hap := apV_le32 (b := b) (e := 5) n (by simp only [tooLong]; omega)
  have h8 : n.fdiv 256 = n / 256 := shr_i64 n 8
  have h16 : n.fdiv 65536 = n / 65536 := shr_i64 n 16
  have h24 : n.fdiv 16777216 = n / 16777216 := shr_i64 n 24
  simp [aShift, IntKind.bits, u8_wrap, hap, h8, h16, h24]

theorem c_A32i32 (b : BS) (n : Int) (hb : b.l.length ≤ 1073741000) : ∀ hE : H, callω fns 92 [b.av 5, .int .i32 n] hE = some ((b.app (le32 n)).av 5, hE) := by
  intro hE
  refine run92 (Nat.le_of_ble_eq_true rfl) ?_
  have hap := apV_le32 (b := b) (e := 5) n (by simp only [tooLong]; omega)
  have h8 : n.fdiv 256 = n / 256 := shr_i64 n 8
  have h16 : n.fdiv 65536 = n / 65536 := shr_i64 n 16
  have h24 : n.fdiv 16777216 = n / 16777216 := shr_i64 n 24
  simp [aShift, IntKind.bits, u8_wrap, hap, h8, h16, h24]

theorem c_AppendDouble (b : BS) (n : Nat) (hb : b.l.length ≤ 1073741000) : ∀ hE : H, callω fns 65 [b.av 5, .flt .f64 n] hE = some ((b.app (le64 n)).av 5, hE) := by
  intro hE
  refine run65 (Nat.le_of_ble_eq_true rfl) ?_
  simp [c_A64u64 b n hb]

theorem c_AppendInt32 (b : BS) (n : Int) (hb : b.l.length ≤ 1073741000) : ∀ hE : H, callω fns 77 [b.av 5, .int .i32 n] hE = some ((b.app (le32 n)).av 5, hE) := by
  intro hE
  refine run77 (Nat.le_of_ble_eq_true rfl) ?_
  simp [c_A32i32 b n hb]

theorem c_appendLength (b : BS) (n : Int) (hb : b.l.length ≤ 1073741000) : ∀ hE : H, callω fns 90 [b.av 5, .int .i32 n] hE = some ((b.app (le32 n)).av 5, hE) := by
  intro hE
  refine run90 (Nat.le_of_ble_eq_true rfl) ?_
  simp [c_A32i32 b n hb]

theorem c_AppendInt64 (b : BS) (n : Int) (hb : b.l.length ≤ 1073741000) : ∀ hE : H, callω fns 79 [b.av 5, .int .i64 n] hE = some ((b.app (le64 n)).av 5, hE) := by
  intro hE
  refine run79 (Nat.le_of_ble_eq_true rfl) ?_
  simp [c_A64i64 b n hb]

theorem c_AppendDateTime (b : BS) (n : Int) (hb : b.l.length ≤ 1073741000) : ∀ hE : H, callω fns 71 [b.av 5, .int .i64 n] hE = some ((b.app (le64 n)).av 5, hE) := by
  intro hE
  refine run71 (Nat.le_of_ble_eq_true rfl) ?_
  simp [c_A64i64 b n hb]

theorem c_AppendDecimal128 (b : BS) (hi lo : Int) (hb : b.l.length ≤ 1073740000) : ∀ hE : H, callω fns 80 [b.av 5, .int .u64 hi, .int .u64 lo] hE = some ((b.app (le64 lo ++ le64 hi)).av 5, hE) := by
  intro hE
  refine run80 (Nat.le_of_ble_eq_true rfl) ?_
  have h1 := c_A64u64 b lo (by omega)
  have h2 := c_A64u64 (b.app (le64 lo)) hi (by simp [BS.l_app, le64_length]; omega)
  simp [h1, h2] <;> simp [BS.app_app, txtL]

theorem c_AppendTimestamp (b : BS) (t i : Int) (hb : b.l.length ≤ 1073740000) : ∀ hE : H, callω fns 78 [b.av 5, .int .u32 t, .int .u32 i] hE = some ((b.app (le32 i ++ le32 t)).av 5, hE) := by
  intro hE
  refine run78 (Nat.le_of_ble_eq_true rfl) ?_
  have h1 := c_A32u32 b i (by omega)
  have h2 := c_A32u32 (b.app (le32 i)) t (by simp [BS.l_app, le32_length]; omega)
  simp [h1, h2] <;> simp [BS.app_app, txtL]

theorem c_AppendBoolean (b : BS) (x : Bool) (hb : b.l.length ≤ 1073741000) : ∀ hE : H, callω fns 70 [b.av 5, .bool x] hE = some ((b.app ([if x then 1 else 0])).av 5, hE) := by
  intro hE
  refine run70 (Nat.le_of_ble_eq_true rfl) ?_
  have hap1 := apV_one (b := b) (e := 5) 1 (by omega) (by omega) (by simp only [tooLong]; omega)
  have hap0 := apV_one (b := b) (e := 5) 0 (by omega) (by omega) (by simp only [tooLong]; omega)
  have e1 : byteOf 1 = 1 := rfl
  have e0 : byteOf 0 = 0 := rfl
  rw [e1] at hap1
  rw [e0] at hap0
  cases x <;> simp [hap0, hap1]

theorem i32_len (s : List UInt8) (hs : s.length ≤ 1000000000) : IntKind.i32.wrap (IntKind.i64.wrap ((s.length : Int) + 1)) = (s.length : Int) + 1 := by
  rw [wrap_i64 (by omega) (by omega)]; simp [IntKind.wrap, IntKind.signed, IntKind.bits]; omega

theorem c_appendstring (b : BS) (s : List UInt8) (hb : b.l.length + s.length ≤ 1000000000) : ∀ hE : H, callω fns 88 [b.av 5, .str s] hE = some ((b.app (txtL s)).av 5, hE) := by
  intro hE
  refine run88 (Nat.le_of_ble_eq_true rfl) ?_
  have hw := i32_len s (by omega)
  have h1 := c_appendLength b ((s.length : Int) + 1) (by omega)
  have hap := fun h : H => apV_str (hp := h) (e := 5) (b.app (le32 ((s.length : Int) + 1))) s (by simp [BS.l_app, le32_length, tooLong]; omega)
  have hap2 := apV_one (b := (b.app (le32 ((s.length : Int) + 1))).app s) (e := 5) 0 (by omega) (by omega) (by simp [BS.l_app, le32_length, tooLong]; omega)
  have e0 : byteOf 0 = 0 := rfl
  rw [e0] at hap2
  simp [hw, h1, hap, hap2] <;> simp [BS.app_app, txtL]

theorem c_AppendString (b : BS) (s : List UInt8) (hb : b.l.length + s.length ≤ 1000000000) : ∀ hE : H, callω fns 66 [b.av 5, .str s] hE = some ((b.app (txtL s)).av 5, hE) := by
  intro hE
  refine run66 (Nat.le_of_ble_eq_true rfl) ?_
  simp [c_appendstring b s hb]

theorem c_AppendJavaScript (b : BS) (s : List UInt8) (hb : b.l.length + s.length ≤ 1000000000) : ∀ hE : H, callω fns 74 [b.av 5, .str s] hE = some ((b.app (txtL s)).av 5, hE) := by
  intro hE
  refine run74 (Nat.le_of_ble_eq_true rfl) ?_
  simp [c_appendstring b s hb]

theorem c_AppendSymbol (b : BS) (s : List UInt8) (hb : b.l.length + s.length ≤ 1000000000) : ∀ hE : H, callω fns 75 [b.av 5, .str s] hE = some ((b.app (txtL s)).av 5, hE) := by
  intro hE
  refine run75 (Nat.le_of_ble_eq_true rfl) ?_
  simp [c_appendstring b s hb]

theorem c_AppendRegex (b : BS) (t m : List UInt8) (ht : plainL t = true) (hm : plainL m = true) (hb : b.l.length + t.length + m.length ≤ 1000000000) : ∀ hE : H, callω fns 72 [b.av 5, .str t, .str m] hE = some ((b.app (t ++ (0 :: (m ++ [0])))).av 5, hE) := by
  intro hE
  refine run72 (Nat.le_of_ble_eq_true rfl) ?_
  have h1 := c_isValidCString ht
  have h2 := c_isValidCString hm
  have hap := fun h : H => apV_str (hp := h) (e := 5) b (t ++ (0 :: (m ++ [0]))) (by simp [tooLong]; omega)
  have g1 : t.length + 1 ≤ maxLen := by simp only [maxLen]; omega
  have g2 : t.length + (m.length + 1) ≤ maxLen := by simp only [maxLen]; omega
  have g3 : t.length + (m.length + 1 + 1) ≤ maxLen := by simp only [maxLen]; omega
  have g4 : t.length + 1 + m.length ≤ maxLen := by simp only [maxLen]; omega
  have g6 : t.length + (m.length + 1) + 1 ≤ maxLen := by simp only [maxLen]; omega
  have g5 : t.length + 1 + m.length + 1 ≤ maxLen := by simp only [maxLen]; omega
  simp [h1, h2, hap, pkV, AV.several, g1, g2, g3, g4, g5, g6]

theorem i32_of {n : Int} (h0 : -2147483648 ≤ n) (h1 : n < 2147483648) : IntKind.i32.wrap n = n := by simp [IntKind.wrap, IntKind.signed, IntKind.bits]; omega

theorem c_AppendBinary2 (b : BS) (o : Option (List UInt8)) (k : Int) (h0 : 0 ≤ k) (h1 : k < 256) (hb : b.l.length + (bl o).length ≤ 1000000000) : ∀ hE : H, callω fns 89 [b.av 5, .int .u8 k, bAV 5 o] hE = some ((b.app (le32 ((bl o).length + 4) ++ (byteOf k :: (le32 (bl o).length ++ bl o)))).av 5, hE) := by
  intro hE
  refine run89 (Nat.le_of_ble_eq_true rfl) ?_
  have hlen := bAV_len 5 o
  have hw : IntKind.i64.wrap (((bl o).length : Int) + 4) = (bl o).length + 4 := wrap_i64 (by omega) (by omega)
  have hw2 : IntKind.i32.wrap (((bl o).length : Int) + 4) = (bl o).length + 4 := i32_of (by omega) (by omega)
  have hw3 : IntKind.i32.wrap ((bl o).length : Int) = (bl o).length := i32_of (by omega) (by omega)
  have a1 := c_appendLength b (((bl o).length : Int) + 4) (by omega)
  have a2 := apV_one (b := b.app (le32 ((bl o).length + 4))) (e := 5) k h0 h1 (by simp [BS.l_app, le32_length, tooLong]; omega)
  have a3 := c_appendLength ((b.app (le32 ((bl o).length + 4))).app [byteOf k]) ((bl o).length : Int) (by simp [BS.l_app, le32_length]; omega)
  have a4 := fun h : H => apV_b (hp := h) (e := 5) (o := o) (b := ((b.app (le32 ((bl o).length + 4))).app [byteOf k]).app (le32 (bl o).length)) (by simp [BS.l_app, le32_length, tooLong]; omega)
  simp [hw, hw2, hw3, a1, a2, a3, a4, hlen] <;> simp [BS.app_app, txtL]

theorem c_AppendBinary (b : BS) (o : Option (List UInt8)) (k : Int) (h0 : 0 ≤ k) (h1 : k < 256) (hb : b.l.length + (bl o).length ≤ 1000000000) : ∀ hE : H, callω fns 68 [b.av 5, .int .u8 k, bAV 5 o] hE =
    some ((b.app (if k = 2 then le32 ((bl o).length + 4) ++ (2 :: (le32 (bl o).length ++ bl o)) else le32 (bl o).length ++ (byteOf k :: bl o))).av 5, hE) := by
  intro hE
  refine run68 (Nat.le_of_ble_eq_true rfl) ?_
  have hlen := bAV_len 5 o
  by_cases hk : k = 2
  · subst hk
    have a1 := c_AppendBinary2 b o 2 (by omega) (by omega) hb
    have e2 : byteOf 2 = 2 := rfl
    rw [e2] at a1
    simp [a1]
  · have hw3 : IntKind.i32.wrap ((bl o).length : Int) = (bl o).length := i32_of (by omega) (by omega)
    have a1 := c_appendLength b ((bl o).length : Int) (by omega)
    have a2 := apV_one (b := b.app (le32 (bl o).length)) (e := 5) k h0 h1 (by simp [BS.l_app, le32_length, tooLong]; omega)
    have a4 := fun h : H => apV_b (hp := h) (e := 5) (o := o) (b := (b.app (le32 (bl o).length)).app [byteOf k]) (by simp [BS.l_app, le32_length, tooLong]; omega)
    simp [hk, hlen, hw3, a1, a2, a4] <;> simp [BS.app_app, txtL]

theorem apV_arrB {h : H} {i k e m : Nat} {l : List UInt8} (b : BS) (hg : h.get i = some (.cells (byteCells l))) (hk : k + m ≤ l.length) (hm : b.l.length + m ≤ tooLong) :
    apV h e 1 1 false (b.av e) (.hsl i k e 1 m) = some ((b.app ((l.drop k).take m)).av e) := by
  have h1 := moreV_arr (e := e) hg hk
  have h2 := apV_b (hp := h) (e := e) (o := some ((l.drop k).take m)) (b := b) (by simp; omega)
  simp only [bl_some] at h2
  have h3 : moreV h 1 false (bAV e (some ((l.drop k).take m))) = some (byteCells ((l.drop k).take m)) := by simp [moreV, bAV]
  rw [← h2]
  cases b <;> simp only [BS.av, apV, h1, h3]
theorem c_AppendObjectID (b : BS) (o : List UInt8) (ho : o.length = 12) (hb : b.l.length ≤ 1000000000) : ∀ hE : H, callv fns 69 [b.av 5, .agg (byteCells o)] hE = some ((b.app o).av 5) := by
  intro hE
  refine runv69 (Nat.le_of_ble_eq_true rfl) ?_
  have hm := apV_arrB (h := hE.app [.cells (byteCells o)]) (e := 5) (i := hE.n) (k := 0) (m := 12) (l := o) b (by simp) (by omega) (by simp only [tooLong]; omega)
  simp only [List.drop_zero, List.take_of_length_le (Nat.le_of_eq ho)] at hm
  simp [H.push_app, hm, noHeap_old]
theorem c_AppendDBPointer (b : BS) (s o : List UInt8) (ho : o.length = 12) (hb : b.l.length + s.length ≤ 999999000) : ∀ hE : H, callv fns 73 [b.av 5, .str s, .agg (byteCells o)] hE = some ((b.app (txtL s ++ o)).av 5) := by
  intro hE
  refine runv73 (Nat.le_of_ble_eq_true rfl) ?_
  have h1 := c_appendstring b s (by omega)
  have hm := apV_arrB (h := hE.app [.cells (byteCells o)]) (e := 5) (i := hE.n) (k := 0) (m := 12) (l := o) (b.app (txtL s)) (by simp) (by omega) (by simp [BS.l_app, txtL_length, tooLong]; omega)
  simp only [List.drop_zero, List.take_of_length_le (Nat.le_of_eq ho)] at hm
  simp [H.push_app, h1, hm, noHeap_old] <;> simp [BS.app_app, txtL]

theorem c_AppendCodeWithScope (b : BS) (s : List UInt8) (o : Option (List UInt8)) (hb : b.l.length + s.length + (bl o).length ≤ 999999000) : ∀ hE : H, callω fns 76 [b.av 5, .str s, bAV 5 o] hE = some ((b.app (le32 (4 + (txtL s).length + (bl o).length) ++ (txtL s ++ bl o))).av 5, hE) := by
  intro hE
  refine run76 (Nat.le_of_ble_eq_true rfl) ?_
  have hlen := bAV_len 5 o
  have w1 : IntKind.i64.wrap (8 + (s.length : Int)) = 8 + s.length := wrap_i64 (by omega) (by omega)
  have w2 : IntKind.i64.wrap (8 + (s.length : Int) + 1) = 8 + s.length + 1 := wrap_i64 (by omega) (by omega)
  have w3 : IntKind.i64.wrap (8 + (s.length : Int) + 1 + (bl o).length) = 4 + (txtL s).length + (bl o).length := by rw [wrap_i64 (by omega) (by omega), txtL_length]; omega
  have w4 : IntKind.i32.wrap (4 + ((txtL s).length : Int) + (bl o).length) = 4 + (txtL s).length + (bl o).length := i32_of (by omega) (by rw [txtL_length]; omega)
  have a1 := c_appendLength b (4 + ((txtL s).length : Int) + (bl o).length) (by omega)
  have a2 := c_appendstring (b.app (le32 (4 + (txtL s).length + (bl o).length))) s (by simp [BS.l_app, le32_length]; omega)
  have a3 := fun h : H => apV_b (hp := h) (e := 5) (o := o) (b := (b.app (le32 (4 + (txtL s).length + (bl o).length))).app (txtL s)) (by simp [BS.l_app, le32_length, txtL_length, tooLong]; omega)
  simp [hlen, w1, w2, w3, w4, a1, a2, a3] <;> simp [BS.app_app, txtL]

theorem c_AppendDocument (b : BS) (o : Option (List UInt8)) (hb : b.l.length + (bl o).length ≤ 1000000000) : ∀ hE : H, callω fns 67 [b.av 5, bAV 5 o] hE = some ((b.app (bl o)).av 5, hE) := by
  intro hE
  refine run67 (Nat.le_of_ble_eq_true rfl) ?_
  have hap := fun h : H => apV_b (hp := h) (e := 5) (o := o) (b := b) (by simp only [tooLong]; omega)
  simp [hap]

theorem c_AppendArray (b : BS) (o : Option (List UInt8)) (hb : b.l.length + (bl o).length ≤ 1000000000) : ∀ hE : H, callω fns 81 [b.av 5, bAV 5 o] hE = some ((b.app (bl o)).av 5, hE) := by
  intro hE
  refine run81 (Nat.le_of_ble_eq_true rfl) ?_
  have hap := fun h : H => apV_b (hp := h) (e := 5) (o := o) (b := b) (by simp only [tooLong]; omega)
  simp [hap]

theorem c_AppendDoubleElement (b : BS) (s : List UInt8) (hp : plainL s = true) (n : Nat) (hb : b.l.length + s.length + (0) ≤ 999998000) : ∀ hE : H, callω fns 32 [b.av 5, .str s, .flt .f64 n] hE = some ((b.app (hdL 1 s ++ (le64 n))).av 5, hE) := by
  intro hE
  refine run32 (Nat.le_of_ble_eq_true rfl) ?_
  have a1 := c_AppendHeader b 1 s hp (by omega) (by omega) (by omega)
  have a2 := c_AppendDouble (b.app (hdL 1 s)) n (by simp only [BS.l_app, List.length_append, hdL_length]; omega)
  simp [a1, a2] <;> simp [BS.app_app]

theorem c_AppendStringElement (b : BS) (s : List UInt8) (hp : plainL s = true) (t : List UInt8) (hb : b.l.length + s.length + (t.length) ≤ 999998000) : ∀ hE : H, callω fns 34 [b.av 5, .str s, .str t] hE = some ((b.app (hdL 2 s ++ (txtL t))).av 5, hE) := by
  intro hE
  refine run34 (Nat.le_of_ble_eq_true rfl) ?_
  have a1 := c_AppendHeader b 2 s hp (by omega) (by omega) (by omega)
  have a2 := c_AppendString (b.app (hdL 2 s)) t (by simp only [BS.l_app, List.length_append, hdL_length]; omega)
  simp [a1, a2] <;> simp [BS.app_app]

theorem c_AppendDocumentElement (b : BS) (s : List UInt8) (hp : plainL s = true) (o : Option (List UInt8)) (hb : b.l.length + s.length + ((bl o).length) ≤ 999998000) : ∀ hE : H, callω fns 35 [b.av 5, .str s, bAV 5 o] hE = some ((b.app (hdL 3 s ++ (bl o))).av 5, hE) := by
  intro hE
  refine run35 (Nat.le_of_ble_eq_true rfl) ?_
  have a1 := c_AppendHeader b 3 s hp (by omega) (by omega) (by omega)
  have a2 := c_AppendDocument (b.app (hdL 3 s)) o (by simp only [BS.l_app, List.length_append, hdL_length]; omega)
  simp [a1, a2] <;> simp [BS.app_app]

theorem c_AppendArrayElement (b : BS) (s : List UInt8) (hp : plainL s = true) (o : Option (List UInt8)) (hb : b.l.length + s.length + ((bl o).length) ≤ 999998000) : ∀ hE : H, callω fns 37 [b.av 5, .str s, bAV 5 o] hE = some ((b.app (hdL 4 s ++ (bl o))).av 5, hE) := by
  intro hE
  refine run37 (Nat.le_of_ble_eq_true rfl) ?_
  have a1 := c_AppendHeader b 4 s hp (by omega) (by omega) (by omega)
  have a2 := c_AppendArray (b.app (hdL 4 s)) o (by simp only [BS.l_app, List.length_append, hdL_length]; omega)
  simp [a1, a2] <;> simp [BS.app_app]

theorem c_AppendBinaryElement (b : BS) (s : List UInt8) (hp : plainL s = true) (o : Option (List UInt8)) (k : Int) (h0 : 0 ≤ k) (h1 : k < 256) (hb : b.l.length + s.length + ((bl o).length) ≤ 999998000) : ∀ hE : H, callω fns 38 [b.av 5, .str s, .int .u8 k, bAV 5 o] hE = some ((b.app (hdL 5 s ++ (if k = 2 then le32 ((bl o).length + 4) ++ (2 :: (le32 (bl o).length ++ bl o)) else le32 (bl o).length ++ (byteOf k :: bl o)))).av 5, hE) := by
  intro hE
  refine run38 (Nat.le_of_ble_eq_true rfl) ?_
  have a1 := c_AppendHeader b 5 s hp (by omega) (by omega) (by omega)
  have a2 := c_AppendBinary (b.app (hdL 5 s)) o k h0 h1 (by simp only [BS.l_app, List.length_append, hdL_length]; omega)
  simp [a1, a2] <;> simp [BS.app_app]

theorem c_AppendUndefinedElement (b : BS) (s : List UInt8) (hp : plainL s = true) (hb : b.l.length + s.length + (0) ≤ 999998000) : ∀ hE : H, callω fns 39 [b.av 5, .str s] hE = some ((b.app (hdL 6 s ++ ([]))).av 5, hE) := by
  intro hE
  refine run39 (Nat.le_of_ble_eq_true rfl) ?_
  have a1 := c_AppendHeader b 6 s hp (by omega) (by omega) (by omega)
  simp [a1] <;> simp [BS.app_app]

theorem c_AppendObjectIDElement (b : BS) (s : List UInt8) (hp : plainL s = true) (o : List UInt8) (ho : o.length = 12) (hb : b.l.length + s.length + (0) ≤ 999998000) : ∀ hE : H, callω fns 40 [b.av 5, .str s, .agg (byteCells o)] hE = some ((b.app (hdL 7 s ++ (o))).av 5, hE) := by
  intro hE
  refine run40 (Nat.le_of_ble_eq_true rfl) ?_
  have a1 := c_AppendHeader b 7 s hp (by omega) (by omega) (by omega)
  have hld : ∀ m, ldO m true 12 0 (.cells (byteCells o)) = some (.agg (byteCells o), .cells (byteCells o)) := fun m => ldO_arr ho
  have a2 := c_AppendObjectID (b.app (hdL 7 s)) o ho (by simp only [BS.l_app, List.length_append, hdL_length]; omega)
  simp [a1, hld, -ldO_ct, -splice, a2] <;> simp [BS.app_app]

theorem c_AppendBooleanElement (b : BS) (s : List UInt8) (hp : plainL s = true) (x : Bool) (hb : b.l.length + s.length + (0) ≤ 999998000) : ∀ hE : H, callω fns 42 [b.av 5, .str s, .bool x] hE = some ((b.app (hdL 8 s ++ ([if x then 1 else 0]))).av 5, hE) := by
  intro hE
  refine run42 (Nat.le_of_ble_eq_true rfl) ?_
  have a1 := c_AppendHeader b 8 s hp (by omega) (by omega) (by omega)
  have a2 := c_AppendBoolean (b.app (hdL 8 s)) x (by simp only [BS.l_app, List.length_append, hdL_length]; omega)
  simp [a1, a2] <;> simp [BS.app_app]

theorem c_AppendDateTimeElement (b : BS) (s : List UInt8) (hp : plainL s = true) (n : Int) (hb : b.l.length + s.length + (0) ≤ 999998000) : ∀ hE : H, callω fns 43 [b.av 5, .str s, .int .i64 n] hE = some ((b.app (hdL 9 s ++ (le64 n))).av 5, hE) := by
  intro hE
  refine run43 (Nat.le_of_ble_eq_true rfl) ?_
  have a1 := c_AppendHeader b 9 s hp (by omega) (by omega) (by omega)
  have a2 := c_AppendDateTime (b.app (hdL 9 s)) n (by simp only [BS.l_app, List.length_append, hdL_length]; omega)
  simp [a1, a2] <;> simp [BS.app_app]

theorem c_AppendNullElement (b : BS) (s : List UInt8) (hp : plainL s = true) (hb : b.l.length + s.length + (0) ≤ 999998000) : ∀ hE : H, callω fns 44 [b.av 5, .str s] hE = some ((b.app (hdL 10 s ++ ([]))).av 5, hE) := by
  intro hE
  refine run44 (Nat.le_of_ble_eq_true rfl) ?_
  have a1 := c_AppendHeader b 10 s hp (by omega) (by omega) (by omega)
  simp [a1] <;> simp [BS.app_app]

theorem c_AppendRegexElement (b : BS) (s : List UInt8) (hp : plainL s = true) (t m : List UInt8) (ht : plainL t = true) (hm : plainL m = true) (hb : b.l.length + s.length + (t.length + m.length) ≤ 999998000) : ∀ hE : H, callω fns 45 [b.av 5, .str s, .str t, .str m] hE = some ((b.app (hdL 11 s ++ (t ++ (0 :: (m ++ [0]))))).av 5, hE) := by
  intro hE
  refine run45 (Nat.le_of_ble_eq_true rfl) ?_
  have a1 := c_AppendHeader b 11 s hp (by omega) (by omega) (by omega)
  have a2 := c_AppendRegex (b.app (hdL 11 s)) t m ht hm (by simp only [BS.l_app, List.length_append, hdL_length]; omega)
  simp [a1, a2] <;> simp [BS.app_app]

theorem c_AppendDBPointerElement (b : BS) (s : List UInt8) (hp : plainL s = true) (t o : List UInt8) (ho : o.length = 12) (hb : b.l.length + s.length + (t.length) ≤ 999998000) : ∀ hE : H, callω fns 46 [b.av 5, .str s, .str t, .agg (byteCells o)] hE = some ((b.app (hdL 12 s ++ (txtL t ++ o))).av 5, hE) := by
  intro hE
  refine run46 (Nat.le_of_ble_eq_true rfl) ?_
  have a1 := c_AppendHeader b 12 s hp (by omega) (by omega) (by omega)
  have hld : ∀ m, ldO m true 12 0 (.cells (byteCells o)) = some (.agg (byteCells o), .cells (byteCells o)) := fun m => ldO_arr ho
  have a2 := c_AppendDBPointer (b.app (hdL 12 s)) t o ho (by simp only [BS.l_app, List.length_append, hdL_length]; omega)
  simp [a1, hld, -ldO_ct, -splice, a2] <;> simp [BS.app_app]

theorem c_AppendJavaScriptElement (b : BS) (s : List UInt8) (hp : plainL s = true) (t : List UInt8) (hb : b.l.length + s.length + (t.length) ≤ 999998000) : ∀ hE : H, callω fns 47 [b.av 5, .str s, .str t] hE = some ((b.app (hdL 13 s ++ (txtL t))).av 5, hE) := by
  intro hE
  refine run47 (Nat.le_of_ble_eq_true rfl) ?_
  have a1 := c_AppendHeader b 13 s hp (by omega) (by omega) (by omega)
  have a2 := c_AppendJavaScript (b.app (hdL 13 s)) t (by simp only [BS.l_app, List.length_append, hdL_length]; omega)
  simp [a1, a2] <;> simp [BS.app_app]

theorem c_AppendSymbolElement (b : BS) (s : List UInt8) (hp : plainL s = true) (t : List UInt8) (hb : b.l.length + s.length + (t.length) ≤ 999998000) : ∀ hE : H, callω fns 48 [b.av 5, .str s, .str t] hE = some ((b.app (hdL 14 s ++ (txtL t))).av 5, hE) := by
  intro hE
  refine run48 (Nat.le_of_ble_eq_true rfl) ?_
  have a1 := c_AppendHeader b 14 s hp (by omega) (by omega) (by omega)
  have a2 := c_AppendSymbol (b.app (hdL 14 s)) t (by simp only [BS.l_app, List.length_append, hdL_length]; omega)
  simp [a1, a2] <;> simp [BS.app_app]

theorem c_AppendCodeWithScopeElement (b : BS) (s : List UInt8) (hp : plainL s = true) (t : List UInt8) (o : Option (List UInt8)) (hb : b.l.length + s.length + (t.length + (bl o).length) ≤ 999998000) : ∀ hE : H, callω fns 49 [b.av 5, .str s, .str t, bAV 5 o] hE = some ((b.app (hdL 15 s ++ (le32 (4 + (txtL t).length + (bl o).length) ++ (txtL t ++ bl o)))).av 5, hE) := by
  intro hE
  refine run49 (Nat.le_of_ble_eq_true rfl) ?_
  have a1 := c_AppendHeader b 15 s hp (by omega) (by omega) (by omega)
  have a2 := c_AppendCodeWithScope (b.app (hdL 15 s)) t o (by simp only [BS.l_app, List.length_append, hdL_length]; omega)
  simp [a1, a2] <;> simp [BS.app_app]

theorem c_AppendInt32Element (b : BS) (s : List UInt8) (hp : plainL s = true) (n : Int) (hb : b.l.length + s.length + (0) ≤ 999998000) : ∀ hE : H, callω fns 51 [b.av 5, .str s, .int .i32 n] hE = some ((b.app (hdL 16 s ++ (le32 n))).av 5, hE) := by
  intro hE
  refine run51 (Nat.le_of_ble_eq_true rfl) ?_
  have a1 := c_AppendHeader b 16 s hp (by omega) (by omega) (by omega)
  have a2 := c_AppendInt32 (b.app (hdL 16 s)) n (by simp only [BS.l_app, List.length_append, hdL_length]; omega)
  simp [a1, a2] <;> simp [BS.app_app]

theorem c_AppendTimestampElement (b : BS) (s : List UInt8) (hp : plainL s = true) (t i : Int) (hb : b.l.length + s.length + (0) ≤ 999998000) : ∀ hE : H, callω fns 52 [b.av 5, .str s, .int .u32 t, .int .u32 i] hE = some ((b.app (hdL 17 s ++ (le32 i ++ le32 t))).av 5, hE) := by
  intro hE
  refine run52 (Nat.le_of_ble_eq_true rfl) ?_
  have a1 := c_AppendHeader b 17 s hp (by omega) (by omega) (by omega)
  have a2 := c_AppendTimestamp (b.app (hdL 17 s)) t i (by simp only [BS.l_app, List.length_append, hdL_length]; omega)
  simp [a1, a2] <;> simp [BS.app_app]

theorem c_AppendInt64Element (b : BS) (s : List UInt8) (hp : plainL s = true) (n : Int) (hb : b.l.length + s.length + (0) ≤ 999998000) : ∀ hE : H, callω fns 53 [b.av 5, .str s, .int .i64 n] hE = some ((b.app (hdL 18 s ++ (le64 n))).av 5, hE) := by
  intro hE
  refine run53 (Nat.le_of_ble_eq_true rfl) ?_
  have a1 := c_AppendHeader b 18 s hp (by omega) (by omega) (by omega)
  have a2 := c_AppendInt64 (b.app (hdL 18 s)) n (by simp only [BS.l_app, List.length_append, hdL_length]; omega)
  simp [a1, a2] <;> simp [BS.app_app]

theorem c_AppendDecimal128Element (b : BS) (s : List UInt8) (hp : plainL s = true) (hi lo : Int) (hb : b.l.length + s.length + (0) ≤ 999998000) : ∀ hE : H, callω fns 54 [b.av 5, .str s, .int .u64 hi, .int .u64 lo] hE = some ((b.app (hdL 19 s ++ (le64 lo ++ le64 hi))).av 5, hE) := by
  intro hE
  refine run54 (Nat.le_of_ble_eq_true rfl) ?_
  have a1 := c_AppendHeader b 19 s hp (by omega) (by omega) (by omega)
  have a2 := c_AppendDecimal128 (b.app (hdL 19 s)) hi lo (by simp only [BS.l_app, List.length_append, hdL_length]; omega)
  simp [a1, a2] <;> simp [BS.app_app]

theorem c_AppendMaxKeyElement (b : BS) (s : List UInt8) (hp : plainL s = true) (hb : b.l.length + s.length + (0) ≤ 999998000) : ∀ hE : H, callω fns 55 [b.av 5, .str s] hE = some ((b.app (hdL 127 s ++ ([]))).av 5, hE) := by
  intro hE
  refine run55 (Nat.le_of_ble_eq_true rfl) ?_
  have a1 := c_AppendHeader b 127 s hp (by omega) (by omega) (by omega)
  simp [a1] <;> simp [BS.app_app]

theorem c_AppendMinKeyElement (b : BS) (s : List UInt8) (hp : plainL s = true) (hb : b.l.length + s.length + (0) ≤ 999998000) : ∀ hE : H, callω fns 56 [b.av 5, .str s] hE = some ((b.app (hdL 255 s ++ ([]))).av 5, hE) := by
  intro hE
  refine run56 (Nat.le_of_ble_eq_true rfl) ?_
  have a1 := c_AppendHeader b 255 s hp (by omega) (by omega) (by omega)
  simp [a1] <;> simp [BS.app_app]

end Go.Proofs.Ytcodfehgnjplcaa.Abs
