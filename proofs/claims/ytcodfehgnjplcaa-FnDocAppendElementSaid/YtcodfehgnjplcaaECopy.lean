/- EReserve, EHead, ECopy -/
import Derived.Test.YtcodfehgnjplcaaA28
import Derived.Test.YtcodfehgnjplcaaFFnDocAppendElement
import Derived.Test.YtcodfehgnjplcaaTR4
/- Four bytes reserved, a length written. -/
namespace Go.Proofs.Ytcodfehgnjplcaa.Abs
set_option linter.all false
open Go.Proofs
set_option linter.unusedVariables false
set_option linter.unusedSimpArgs false
set_option maxRecDepth 100000
set_option maxHeartbeats 4000000

theorem u32_bytes (v : Int) (h0 : 0 ≤ v) (h1 : v < 4294967296) : True := trivial

theorem c_PutUint32 (h : H) (i k n : Nat) (cp : Option Nat) (l : List UInt8) (v : Int) (hg : h.get i = some (.row 5 1 cp (byteCells l))) (hn : 4 ≤ n) (hk : k + n ≤ l.length) :
    callω fns 85 [.agg [], .hsl i k 5 1 n, .int .u32 v] h = some (.tup [], h.set i (.row 5 1 cp (byteCells (setL l k (le32 v))))) := by
  refine run85 (Nat.le_of_ble_eq_true rfl) ?_
  have g3 : (3 : Int) < n := by omega
  have g2 : (2 : Int) < n := by omega
  have g1 : (1 : Int) < n := by omega
  have g0 : (0 : Int) < n := by omega
  have e3 := byteCells_get l (k + 3) (by omega)
  have h8 : v.fdiv 256 = v / 256 := shr_i64 v 8
  have h16 : v.fdiv 65536 = v / 65536 := shr_i64 v 16
  have h24 : v.fdiv 16777216 = v / 16777216 := shr_i64 v 24
  have f0 : 0 < n := by omega
  have l1 : k + 1 ≤ l.length := by omega
  have l2 : k + 1 + 1 ≤ l.length := by omega
  have l3 : k + 2 + 1 ≤ l.length := by omega
  have l4 : k + 3 + 1 ≤ l.length := by omega
  have c1 := setL_length l k [byteOf v] (by simp; omega)
  have c2 := setL_length (setL l k [byteOf v]) (k + 1) [byteOf (v / 256)] (by simp; omega)
  have c3 := setL_length (setL (setL l k [byteOf v]) (k + 1) [byteOf (v / 256)]) (k + 2) [byteOf (v / 65536)] (by simp; omega)
  have c4 : setL (setL (setL (setL l k [byteOf v]) (k + 1) [byteOf (v / 256)]) (k + 2) [byteOf (v / 65536)]) (k + 3) [byteOf (v / 16777216)] = setL l k (le32 v) := by
    have a1 := setL_setL l k [byteOf v] [byteOf (v / 256)] (by simp; omega)
    have a2 := setL_setL l k [byteOf v, byteOf (v / 256)] [byteOf (v / 65536)] (by simp; omega)
    have a3 := setL_setL l k [byteOf v, byteOf (v / 256), byteOf (v / 65536)] [byteOf (v / 16777216)] (by simp; omega)
    simp at a1 a2 a3
    rw [a1, a2, a3]; rfl
  simp [ixV, g3, g2, g1, f0, hg, e3, ldO, H.set_get hg, -splice, aShift, IntKind.bits, h8, h16, h24, u8_wrap, stO, H.get_set_same hg, splice_byte, AV.isOwn, l1, l2, l3, l4, c1, c2, c3, c4]

theorem le32_u32 (n : Int) : le32 (IntKind.u32.wrap n) = le32 n := by
  have e : IntKind.u32.wrap n = n % 4294967296 := by simp [IntKind.wrap, IntKind.signed, IntKind.bits]
  rw [e]
  unfold le32 byteOf
  have h1 : n % 4294967296 % 256 = n % 256 := by omega
  have h2 : n % 4294967296 / 256 % 256 = n / 256 % 256 := by omega
  have h3 : n % 4294967296 / 65536 % 256 = n / 65536 % 256 := by omega
  have h4 : n % 4294967296 / 16777216 % 256 = n / 16777216 % 256 := by omega
  rw [h1, h2, h3, h4]

theorem c_UpdateLength (l : List UInt8) (i n : Int) (h0 : 0 ≤ i) (h1 : i + 4 ≤ l.length) (hl : l.length ≤ 1073741824) :
    ∀ h : H, callv fns 64 [(BS.own true l).av 5, .int .i32 i, .int .i32 n] h = some ((BS.own true (setL l i.toNat (le32 n))).av 5) := by
  intro h
  have hp := c_PutUint32 (h.push (.row 5 1 none (byteCells l))) h.n i.toNat (l.length - i.toNat) none l (IntKind.u32.wrap n) (by simp) (by omega) (by omega)
  rw [le32_u32] at hp
  have hi : i ≤ l.length := by omega
  have e1 : (setL l i.toNat (le32 n)).length = l.length := setL_length _ _ _ (by rw [le32_length]; omega)
  refine runv64 (Nat.le_of_ble_eq_true rfl) ?_
  simp [BS.av, slSl, h0, hi, hp, e1, Run_some']

theorem BS.mk_ne {l : List UInt8} (h : l ≠ []) : BS.mk l = .own true l := by cases l <;> first | exact absurd rfl h | rfl

theorem c_ReserveLength (b : BS) (hl : b.l.length ≤ 1073741824) : ∀ h : H, callω fns 84 [b.av 5] h = some (.tup [.int .i32 b.l.length, (b.app [0, 0, 0, 0]).av 5], h) := by
  intro h
  refine run84 (Nat.le_of_ble_eq_true rfl) ?_
  have h1 : ∀ h : H, apV h 5 1 1 false (b.av 5) (.slice (.own true) 5 1 [.int .u8 0, .int .u8 0, .int .u8 0, .int .u8 0]) = some ((b.app [0, 0, 0, 0]).av 5) := fun h => by
    have := apV_l4 (hp := h) (e := 5) (f := true) (b := b) (c1 := 0) (c2 := 0) (c3 := 0) (c4 := 0) (by simp [tooLong]; omega)
    exact this
  have hi : IntKind.i32.wrap (b.l.length : Int) = b.l.length := by simp [IntKind.wrap, IntKind.signed, IntKind.bits]; omega
  simp [h1, hi]
end Go.Proofs.Ytcodfehgnjplcaa.Abs

/- Kinds and names ahead of values. -/
namespace Go.Proofs.Ytcodfehgnjplcaa.Abs
set_option linter.all false
open Go.Proofs
set_option linter.unusedVariables false
set_option linter.unusedSimpArgs false
set_option maxRecDepth 100000
set_option maxHeartbeats 4000000

theorem l_zzIndexRune {s : List UInt8} (hp : plainL s = true) : ∀ (m pos : Nat) (st : St), s.length - pos ≤ m → pos ≤ s.length → st.s 1 = .int .i32 0 → st.s 26 = .ptr (.loc 26) 0 → st.b 26 = some (.iter s pos) →
    ∀ Q : Ex × St → Prop, (∀ st' : St, st'.h = st.h → Q (.exit 0, st')) → LoopR fns lc95_0 st Q := by
  intro m
  induction m with
  | zero =>
    intro pos st hm hle h1 h26 hb Q hQ
    refine loopω_run fns ?_
    have he := iterNext_end (l := s) (pos := pos) (by omega)
    simp [h26, nextV_loc hb, he, exV]
    exact hQ _ rfl
  | succ m ih =>
    intro pos st hm hle h1 h26 hb Q hQ
    refine loopω_run fns ?_
    by_cases hlt : pos < s.length
    · obtain ⟨r, w, he, hr, hw1, hw2⟩ := iterNext_plain hp hlt
      have hr' : ¬ (r : Int) = 0 := by omega
      simp [h26, nextV_loc hb, he, exV, h1, hr, hr']
      refine ih (pos + w) _ (by omega) hw2 ?_ ?_ ?_ Q hQ <;> simp [h1, h26]
    · have he := iterNext_end (l := s) (pos := pos) (by omega)
      simp [h26, nextV_loc hb, he, exV]
      exact hQ _ rfl
theorem c_zzIndexRune {s : List UInt8} (hp : plainL s = true) : ∀ hE : H, callω fns 95 [.str s, .int .i32 0] hE = some (.int .i64 (-1), hE) := by
  intro hE
  refine run95 (Nat.le_of_ble_eq_true rfl) ?_
  simp [cvSS]
  refine l_zzIndexRune hp s.length 0 _ (by omega) (by omega) ?_ ?_ ?_ _ (fun st' e => ?_)
  · simp
  · simp
  · simp
  · simp [e]
theorem c_isValidCString {s : List UInt8} (hp : plainL s = true) : ∀ hE : H, callω fns 82 [.str s] hE = some (.bool true, hE) := by
  intro hE
  refine run82 (Nat.le_of_ble_eq_true rfl) ?_
  have hz : ∀ hE : H, callω fns 94 [.str s, .int .i32 0] hE = some (.bool false, hE) := by
    intro hE
    refine run94 (Nat.le_of_ble_eq_true rfl) ?_
    simp [c_zzIndexRune hp]
  simp [hz]
theorem c_AppendType (b : BS) (k : Int) (h0 : 0 ≤ k) (h1 : k < 256) (hl : b.l.length ≤ 1073741824) : ∀ hE : H, callω fns 83 [b.av 5, .int .u8 k] hE = some ((b.app [byteOf k]).av 5, hE) := by
  intro hE
  refine run83 (Nat.le_of_ble_eq_true rfl) ?_
  have hap : ∀ hp : H, apV hp 5 1 1 false (b.av 5) (.slice (.own true) 5 1 [.int .u8 k]) = some ((b.app [byteOf k]).av 5) := fun hp => by
    have := apV_l1 (hp := hp) (e := 5) (f := true) (c := byteOf k) (b := b) (by simp [tooLong]; omega)
    rw [byteOf_toNat, Int.emod_eq_of_lt h0 h1] at this; exact this
  simp [hap]
theorem c_AppendHeader (b : BS) (k : Int) (s : List UInt8) (hp : plainL s = true) (h0 : 0 ≤ k) (h1 : k < 256) (hl : b.l.length + s.length ≤ 1073741000) : ∀ hE : H, callω fns 57 [b.av 5, .int .u8 k, .str s] hE = some ((b.app (hdL k s)).av 5, hE) := by
  intro hE
  refine run57 (Nat.le_of_ble_eq_true rfl) ?_
  have h2 := c_AppendType b k h0 h1 (by omega)
  have h3 : ∀ hp : H, apV hp 5 1 1 true ((b.app [byteOf k]).av 5) (.str s) = some ((b.app ([byteOf k] ++ s)).av 5) := fun hp => by
    rw [← BS.app_app]; exact apV_str _ _ (by simp [BS.l_app, tooLong]; omega)
  have h4 : ∀ hp : H, apV hp 5 1 1 false ((b.app ([byteOf k] ++ s)).av 5) (.slice (.own true) 5 1 [.int .u8 0]) = some ((b.app (hdL k s)).av 5) := fun hp => by
    have := apV_l0 (hp := hp) (e := 5) (f := true) (b := b.app ([byteOf k] ++ s)) (by simp [BS.l_app, tooLong]; omega)
    rw [BS.app_app] at this; simpa [hdL] using this
  simp only [List.cons_append, List.nil_append] at h3 h4
  simp [c_isValidCString hp, h2, h3, h4]
end Go.Proofs.Ytcodfehgnjplcaa.Abs

/- Copies of bytes. -/
namespace Go.Proofs.Ytcodfehgnjplcaa.Abs
set_option linter.all false
open Go.Proofs
set_option linter.unusedVariables false
set_option linter.unusedSimpArgs false
set_option maxRecDepth 100000
set_option maxHeartbeats 4000000

theorem c_own (o : Option (List UInt8)) (hl : (bl o).length ≤ 1073741824) : ∀ h : H, callω fns 19 [bAV 5 o] h = some ((BS.mk (bl o)).av 5, h) := by
  intro h
  refine run19 (Nat.le_of_ble_eq_true rfl) ?_
  have h1 : ∀ h : H, apV h 5 1 1 false (.slice .nil 0 1 []) (bAV 5 o) = some ((BS.mk (bl o)).av 5) := fun h => by
    have := apV_b (hp := h) (e := 5) (o := o) (b := .nil) (by simp [BS.l, tooLong]; omega)
    simpa [BS.av_nil, BS.nil_app] using this
  simp [h1]
theorem c_docCopy (o : Option (List UInt8)) (hl : (bl o).length ≤ 1073741824) : ∀ h : H, callω fns 9 [bAV 5 o] h = some ((BS.own true (bl o)).av 5, h) := by
  intro h
  refine run9 (Nat.le_of_ble_eq_true rfl) ?_
  have h1 : ∀ h : H, apV h 5 1 1 false (.slice (.own true) 5 1 []) (bAV 5 o) = some ((BS.own true (bl o)).av 5) := fun h => by
    have := apV_b (hp := h) (e := 5) (o := o) (b := .own true []) (by simp [BS.l, tooLong]; omega)
    exact this
  simp [h1]
end Go.Proofs.Ytcodfehgnjplcaa.Abs
