/- Whether a text is UTF-8; a text quoted: the specification's. -/
import Derived.Test.YtpinoabhaaemfaaDoorEUtf
namespace Go.Proofs.YtpinoabhaaemfaaDoor.Abs
set_option linter.all false
open Go.Proofs
set_option linter.unusedVariables false
set_option linter.unusedSimpArgs false
set_option maxRecDepth 100000
set_option maxHeartbeats 4000000

theorem sl_rest {s rest : List UInt8} {i : Nat} (hd : s.drop i = rest) (hi : i ≤ s.length) : slStr (.str s) (some (i : Int)) (some (s.length : Int)) = some (.str rest) := by
  subst hd
  have : (i : Int) ≤ s.length := by omega
  simp [slStr, this, List.take_of_length_le]
theorem exr_of {l : List UInt8} (h : okR l = true) : exr l = ((dec l).2, (dec l).1) := by unfold exr; rw [if_pos h]
theorem exr_not {l : List UInt8} (h : okR l = false) : exr l = (0, 0) := by unfold exr; rw [if_neg (by simp [h])]
theorem drop_rest {s rest : List UInt8} {i n : Nat} (hd : s.drop i = rest) : s.drop (i + n) = rest.drop n := by subst hd; rw [List.drop_drop]
theorem rest_len {s rest : List UInt8} {i : Nat} (hd : s.drop i = rest) : rest.length = s.length - i := by subst hd; simp

theorem l_utf8 {s : List UInt8} (hs : s.length ≤ 100000) : ∀ (k : Nat) (rest : List UInt8) (i : Nat) (st : St), rest.length ≤ k → s.drop i = rest → i ≤ s.length → st.s 0 = .str s → st.s 3 = .int .i64 i →
    ∀ Q : Ex × St → Prop, (validF k rest = true → ∀ st' : St, st'.h = st.h → Q (.exit 0, st')) → (validF k rest = false → ∀ st' : St, st'.h = st.h → st'.s 2 = .bool false → Q (.ret, st')) → LoopR fns lc9_0 st Q := by
  intro k
  induction k with
  | zero =>
    intro rest i st hk hd hi h0 h3 Q hA hB
    have hr : rest = [] := List.eq_nil_of_length_eq_zero (by omega)
    subst hr
    have hl := rest_len hd
    simp at hl
    have hlt : ¬ (i : Int) < s.length := by omega
    refine loopω_run fns ?_
    simp [h0, h3, hlt]
    exact hA rfl _ rfl
  | succ k ih =>
    intro rest i st hk hd hi h0 h3 Q hA hB
    have hl := rest_len hd
    by_cases hr : rest = []
    · subst hr
      simp at hl
      have hlt : ¬ (i : Int) < s.length := by omega
      refine loopω_run fns ?_
      simp [h0, h3, hlt]
      exact hA (by simp [validF]) _ rfl
    · have hrl : 1 ≤ rest.length := by cases rest with | nil => exact absurd rfl hr | cons a r => simp
      have hlt : (i : Int) < s.length := by omega
      have hsl := sl_rest hd hi
      have hx := c_extRune rest
      cases hok : okR rest with
      | false =>
        rw [exr_not hok] at hx
        simp only [Int.ofNat_zero] at hx
        refine loopω_run fns ?_
        simp [h0, h3, hlt, hsl, hx, ex2_0, ex2_1]
        exact hB (by simp [validF, hr, hok]) _ rfl (by simp)
      | true =>
        rw [exr_of hok] at hx
        obtain ⟨d1, d2, _⟩ := dec_ok hok
        have hn0 : ¬ ((dec rest).2 : Int) = 0 := by omega
        have hn0' : ¬ (dec rest).2 = 0 := by omega
        have hw : IntKind.i64.wrap ((i : Int) + (dec rest).2) = i + (dec rest).2 := wrap_i64 (by omega) (by omega)
        refine loopω_run fns ?_
        simp [h0, h3, hlt, hsl, hx, ex2_0, ex2_1, hn0, hn0', hw]
        refine ih (rest.drop (dec rest).2) (i + (dec rest).2) _ (by simp; omega) (drop_rest hd) (by omega) ?_ ?_ Q (fun e st' q => hA (by simp [validF, hok, e]) st' ?_) (fun e st' q q2 => hB (by simp [validF, hr, hok, e]) st' ?_ q2)
        · simp [h0]
        · simp
        · rw [q]
        · rw [q]
theorem c_ExtUTF8 (s : List UInt8) (hs : s.length ≤ 100000) : ∀ hE : H, callω fns 9 [.str s] hE = some (.bool (validF s.length s), hE) := by
  intro hE
  refine run9 (Nat.le_of_ble_eq_true rfl) ?_
  simp
  refine l_utf8 hs s.length s 0 _ (Nat.le_refl _) rfl (by omega) ?_ ?_ _ (fun e st' q => ?_) (fun e st' q q2 => ?_)
  · simp
  · simp
  · simp [q, e]
  · simp [q, q2, e]
theorem c_extText (s : List UInt8) : ∀ hE : H, callω fns 5 [.str s] hE = some (.bool (decide (s.length ≤ 300) && validF s.length s), hE) := by
  intro hE
  by_cases h : s.length ≤ 300
  · have h' : (s.length : Int) ≤ 300 := by omega
    have hu := c_ExtUTF8 s (by omega)
    refine run5 (Nat.le_of_ble_eq_true rfl) ?_
    simp [h, h', hu, pkV]
  · have h' : ¬ (s.length : Int) ≤ 300 := by omega
    refine run5 (Nat.le_of_ble_eq_true rfl) ?_
    simp [h, h', pkV]
theorem ix_hexC {n : Nat} (k : IntKind) (h : n < 16) : ixStr (.str [48, 49, 50, 51, 52, 53, 54, 55, 56, 57, 97, 98, 99, 100, 101, 102]) (.int k (n : Int)) = some (.int .u8 ((hexC n).toNat : Int)) := by
  have : ∀ m : Fin 16, ([48, 49, 50, 51, 52, 53, 54, 55, 56, 57, 97, 98, 99, 100, 101, 102] : List UInt8)[m.val]? = some (hexC m.val) := by decide
  have h2 := this ⟨n, h⟩
  simp only at h2
  simp [ixStr, h2]
theorem hex_bits (n : Nat) (h : n < 256) : ((n : Int).fdiv 16 = ((n / 16 : Nat) : Int)) ∧ andI .u8 (n : Int) 15 = ((n % 16 : Nat) : Int) := by
  refine ⟨by rw [Int.fdiv_eq_ediv_of_nonneg _ (by omega)]; rfl, ?_⟩
  have : ∀ x : Fin 256, andI .u8 ((x.val : Nat) : Int) 15 = ((x.val % 16 : Nat) : Int) := by decide +kernel
  exact this ⟨n, h⟩
theorem c_extHex (n : Nat) (h : n < 256) : ∀ hE : H, callω fns 12 [.int .u8 (n : Int)] hE = some (.str [hexC (n / 16), hexC (n % 16)], hE) := by
  intro hE
  obtain ⟨q1, q2⟩ := hex_bits n h
  have x1 := ix_hexC (n := n / 16) .u8 (by omega)
  have x2 := ix_hexC (n := n % 16) .u8 (by omega)
  have hb : bytesOf [.int .u8 ((hexC (n / 16)).toNat : Int), .int .u8 ((hexC (n % 16)).toNat : Int)] = some [hexC (n / 16), hexC (n % 16)] := bytesOf_cells [hexC (n / 16), hexC (n % 16)]
  simp only [Int.natCast_emod, Int.cast_ofNat_Int, Int.natCast_ediv] at q1 q2 x1 x2
  refine run12 (Nat.le_of_ble_eq_true rfl) ?_
  simp [-ixStr, aShift, IntKind.bits, q1, q2, x1, x2, cvBS, hb]
end Go.Proofs.YtpinoabhaaemfaaDoor.Abs
