/- Characters of a text as UTF-8; a text quoted as JSON has it. Plain. -/
import Derived.Lib.DecodeN
import Derived.Test.YtpinoabhaaemfaaDoorTR3
namespace Go.Proofs.YtpinoabhaaemfaaDoor.Abs
set_option linter.all false
set_option linter.unusedVariables false
set_option maxRecDepth 100000
set_option maxHeartbeats 4000000
open Go

def chr (l : List UInt8) (i : Nat) : Nat := (l.getD i 0).toNat
theorem chr_lt (l : List UInt8) (i : Nat) : chr l i < 256 := UInt8.toNat_lt _
def dec (l : List UInt8) : Nat × Nat := Lib.decodeN l.length (chr l 0) (chr l 1) (chr l 2) (chr l 3)
def okR (l : List UInt8) : Bool := decide (l ≠ []) && decide (dec l ≠ (65533, 1))
def exr (l : List UInt8) : Nat × Nat := if okR l = true then ((dec l).2, (dec l).1) else (0, 0)

theorem exr_1 (b : UInt8) (r : List UInt8) (h : b.toNat < 128) : exr (b :: r) = (1, b.toNat) := by
  have hd : dec (b :: r) = (b.toNat, 1) := by unfold dec Lib.decodeN; simp [chr, h]
  have hk : okR (b :: r) = true := by
    unfold okR; rw [hd]; simp; omega
  unfold exr; rw [if_pos hk, hd]
theorem exr_bad (b : UInt8) (r : List UInt8) (h0 : 128 ≤ b.toNat) (h : b.toNat < 194 ∨ 245 ≤ b.toNat) : exr (b :: r) = (0, 0) := by
  have hb := UInt8.toNat_lt b
  have hd : dec (b :: r) = (65533, 1) := by
    have h1 := chr_lt (b :: r) 1; have h2 := chr_lt (b :: r) 2; have h3 := chr_lt (b :: r) 3
    have e0 : chr (b :: r) 0 = b.toNat := rfl
    unfold dec Lib.decodeN; rw [e0]
    generalize chr (b :: r) 1 = x1 at *; generalize chr (b :: r) 2 = x2 at *; generalize chr (b :: r) 3 = x3 at *
    repeat' split
    all_goals first | rfl | (exfalso; omega)
  have hk : ¬ okR (b :: r) = true := by unfold okR; rw [hd]; simp
  unfold exr; rw [if_neg hk]
theorem exr_short (b : UInt8) (r : List UInt8) (h0 : 128 ≤ b.toNat) (h : (b.toNat < 224 ∧ r = []) ∨ (224 ≤ b.toNat ∧ b.toNat < 240 ∧ r.length < 2) ∨ (240 ≤ b.toNat ∧ r.length < 3)) : exr (b :: r) = (0, 0) := by
  have hb := UInt8.toNat_lt b
  have hl : (b :: r).length = r.length + 1 := rfl
  have hd : dec (b :: r) = (65533, 1) := by
    have h1 := chr_lt (b :: r) 1; have h2 := chr_lt (b :: r) 2; have h3 := chr_lt (b :: r) 3
    have e0 : chr (b :: r) 0 = b.toNat := rfl
    have hr : b.toNat < 224 ∧ r.length = 0 ∨ (224 ≤ b.toNat ∧ b.toNat < 240 ∧ r.length < 2) ∨ (240 ≤ b.toNat ∧ r.length < 3) := by
      rcases h with ⟨a, rfl⟩ | h | h
      · exact .inl ⟨a, rfl⟩
      · exact .inr (.inl h)
      · exact .inr (.inr h)
    unfold dec Lib.decodeN; rw [e0, hl]
    generalize chr (b :: r) 1 = x1 at *; generalize chr (b :: r) 2 = x2 at *; generalize chr (b :: r) 3 = x3 at *
    repeat' split
    all_goals first | rfl | (exfalso; omega)
  have hk : ¬ okR (b :: r) = true := by unfold okR; rw [hd]; simp
  unfold exr; rw [if_neg hk]
theorem exr_2 (b0 b1 : UInt8) (r : List UInt8) (h0 : 194 ≤ b0.toNat) (h1 : b0.toNat < 224) :
    exr (b0 :: b1 :: r) = if b1.toNat / 64 = 2 then (2, b0.toNat % 32 * 64 + b1.toNat % 64) else (0, 0) := by
  have hb := UInt8.toNat_lt b1
  have e0 : chr (b0 :: b1 :: r) 0 = b0.toNat := rfl
  have e1 : chr (b0 :: b1 :: r) 1 = b1.toNat := rfl
  have hl : (b0 :: b1 :: r).length = r.length + 2 := rfl
  have h2 := chr_lt (b0 :: b1 :: r) 2; have h3 := chr_lt (b0 :: b1 :: r) 3
  have hd : dec (b0 :: b1 :: r) = if b1.toNat / 64 = 2 then (b0.toNat % 32 * 64 + b1.toNat % 64, 2) else (65533, 1) := by
    unfold dec Lib.decodeN; rw [e0, e1, hl]
    generalize chr (b0 :: b1 :: r) 2 = x2 at *; generalize chr (b0 :: b1 :: r) 3 = x3 at *
    repeat' split
    all_goals first | rfl | (exfalso; omega)
  unfold exr okR; rw [hd]
  split <;> simp
theorem exr_3 (b0 b1 b2 : UInt8) (r : List UInt8) (h0 : 224 ≤ b0.toNat) (h1 : b0.toNat < 240) :
    exr (b0 :: b1 :: b2 :: r) = if b1.toNat / 64 = 2 ∧ b2.toNat / 64 = 2 ∧ (2048 ≤ b0.toNat % 16 * 4096 + b1.toNat % 64 * 64 + b2.toNat % 64 ∧ (b0.toNat % 16 * 4096 + b1.toNat % 64 * 64 + b2.toNat % 64 < 55296 ∨ 57344 ≤ b0.toNat % 16 * 4096 + b1.toNat % 64 * 64 + b2.toNat % 64))
      then (3, b0.toNat % 16 * 4096 + b1.toNat % 64 * 64 + b2.toNat % 64) else (0, 0) := by
  have hb := UInt8.toNat_lt b1
  have hb2 := UInt8.toNat_lt b2
  have e0 : chr (b0 :: b1 :: b2 :: r) 0 = b0.toNat := rfl
  have e1 : chr (b0 :: b1 :: b2 :: r) 1 = b1.toNat := rfl
  have e2 : chr (b0 :: b1 :: b2 :: r) 2 = b2.toNat := rfl
  have hl : (b0 :: b1 :: b2 :: r).length = r.length + 3 := rfl
  have h3 := chr_lt (b0 :: b1 :: b2 :: r) 3
  have hd : dec (b0 :: b1 :: b2 :: r) = if b1.toNat / 64 = 2 ∧ b2.toNat / 64 = 2 ∧ (2048 ≤ b0.toNat % 16 * 4096 + b1.toNat % 64 * 64 + b2.toNat % 64 ∧ (b0.toNat % 16 * 4096 + b1.toNat % 64 * 64 + b2.toNat % 64 < 55296 ∨ 57344 ≤ b0.toNat % 16 * 4096 + b1.toNat % 64 * 64 + b2.toNat % 64))
      then (b0.toNat % 16 * 4096 + b1.toNat % 64 * 64 + b2.toNat % 64, 3) else (65533, 1) := by
    unfold dec Lib.decodeN; rw [e0, e1, e2, hl]
    generalize chr (b0 :: b1 :: b2 :: r) 3 = x3 at *
    repeat' split
    all_goals first | rfl | (exfalso; omega)
  unfold exr okR; rw [hd]
  split <;> simp
theorem exr_4 (b0 b1 b2 b3 : UInt8) (r : List UInt8) (h0 : 240 ≤ b0.toNat) (h1 : b0.toNat < 245) :
    exr (b0 :: b1 :: b2 :: b3 :: r) = if b1.toNat / 64 = 2 ∧ b2.toNat / 64 = 2 ∧ b3.toNat / 64 = 2 ∧ (65536 ≤ b0.toNat % 8 * 262144 + b1.toNat % 64 * 4096 + b2.toNat % 64 * 64 + b3.toNat % 64 ∧ b0.toNat % 8 * 262144 + b1.toNat % 64 * 4096 + b2.toNat % 64 * 64 + b3.toNat % 64 ≤ 1114111)
      then (4, b0.toNat % 8 * 262144 + b1.toNat % 64 * 4096 + b2.toNat % 64 * 64 + b3.toNat % 64) else (0, 0) := by
  have hb := UInt8.toNat_lt b1
  have hb2 := UInt8.toNat_lt b2
  have hb3 := UInt8.toNat_lt b3
  have e0 : chr (b0 :: b1 :: b2 :: b3 :: r) 0 = b0.toNat := rfl
  have e1 : chr (b0 :: b1 :: b2 :: b3 :: r) 1 = b1.toNat := rfl
  have e2 : chr (b0 :: b1 :: b2 :: b3 :: r) 2 = b2.toNat := rfl
  have e3 : chr (b0 :: b1 :: b2 :: b3 :: r) 3 = b3.toNat := rfl
  have hl : (b0 :: b1 :: b2 :: b3 :: r).length = r.length + 4 := rfl
  have hd : dec (b0 :: b1 :: b2 :: b3 :: r) = if b1.toNat / 64 = 2 ∧ b2.toNat / 64 = 2 ∧ b3.toNat / 64 = 2 ∧ (65536 ≤ b0.toNat % 8 * 262144 + b1.toNat % 64 * 4096 + b2.toNat % 64 * 64 + b3.toNat % 64 ∧ b0.toNat % 8 * 262144 + b1.toNat % 64 * 4096 + b2.toNat % 64 * 64 + b3.toNat % 64 ≤ 1114111)
      then (b0.toNat % 8 * 262144 + b1.toNat % 64 * 4096 + b2.toNat % 64 * 64 + b3.toNat % 64, 4) else (65533, 1) := by
    unfold dec Lib.decodeN; rw [e0, e1, e2, e3, hl]
    repeat' split
    all_goals first | rfl | (exfalso; omega)
  unfold exr okR; rw [hd]
  split <;> simp
theorem dec_ok {l : List UInt8} (h : okR l = true) : 1 ≤ (dec l).2 ∧ (dec l).2 ≤ l.length ∧ (dec l).1 ≤ 1114111 ∧ (chr l 0 < 128 → (dec l).1 = chr l 0 ∧ (dec l).2 = 1) ∧ (128 ≤ chr l 0 → 128 ≤ (dec l).1 ∧ 2 ≤ (dec l).2) := by
  have h1 := chr_lt l 1; have h2 := chr_lt l 2; have h3 := chr_lt l 3; have h0 := chr_lt l 0
  unfold okR at h
  simp only [Bool.and_eq_true, decide_eq_true_eq] at h
  obtain ⟨hn, hd⟩ := h
  have hl : 1 ≤ l.length := by cases l with | nil => exact absurd rfl hn | cons a r => simp
  unfold dec Lib.decodeN at hd ⊢
  generalize chr l 0 = x0 at *; generalize chr l 1 = x1 at *; generalize chr l 2 = x2 at *; generalize chr l 3 = x3 at *
  repeat' split at hd
  all_goals first
    | exact absurd rfl hd
    | (simp only [*, if_true, if_false, ge_iff_le, and_self]; omega)
    | skip
  all_goals (repeat' split) <;> first | omega | (refine ⟨?_, ?_, ?_, ?_, ?_⟩ <;> first | omega | (intro _; constructor <;> omega) | (intro _; omega))

/-! ### Quoted -/
def hexC (n : Nat) : UInt8 := if n < 10 then UInt8.ofNat (48 + n) else UInt8.ofNat (87 + n)
def ltr (c : Nat) : UInt8 := if c = 8 then 98 else if c = 9 then 116 else if c = 10 then 110 else if c = 12 then 102 else 114
def qch (esc : Bool) (c : Nat) (bs : List UInt8) : List UInt8 :=
  if c = 34 ∨ c = 92 then [92, UInt8.ofNat c]
  else if c = 8 ∨ c = 9 ∨ c = 10 ∨ c = 12 ∨ c = 13 then [92, ltr c]
  else if c < 32 ∨ (esc = true ∧ (c = 60 ∨ c = 62 ∨ c = 38)) then [92, 117, 48, 48, hexC (c / 16), hexC (c % 16)]
  else if c = 8232 ∨ c = 8233 then [92, 117, 50, 48, 50, UInt8.ofNat (c - 8176)]
  else bs
def validF : Nat → List UInt8 → Bool
  | 0, l => decide (l = [])
  | k + 1, l => decide (l = []) || (okR l && validF k (l.drop (dec l).2))
def quoteF : Nat → Bool → List UInt8 → List UInt8
  | 0, _, _ => []
  | k + 1, esc, l => if l = [] then [] else qch esc (dec l).1 (l.take (dec l).2) ++ quoteF k esc (l.drop (dec l).2)
def safeC (c : Nat) : Bool := decide (32 ≤ c) && decide (c ≠ 34) && decide (c ≠ 92)
def htmlC (c : Nat) : Bool := safeC c && decide (c ≠ 60) && decide (c ≠ 62) && decide (c ≠ 38)
theorem qch_plain {esc : Bool} {c : Nat} {bs : List UInt8} (hc : c < 128) (h : htmlC c = true ∨ (esc = false ∧ safeC c = true)) : qch esc c bs = bs := by
  have h' : 32 ≤ c ∧ c ≠ 34 ∧ c ≠ 92 ∧ (esc = false ∨ (c ≠ 60 ∧ c ≠ 62 ∧ c ≠ 38)) := by
    unfold htmlC safeC at h
    simp only [Bool.and_eq_true, decide_eq_true_eq] at h
    rcases h with h | h
    · exact ⟨h.1.1.1.1.1, h.1.1.1.1.2, h.1.1.1.2, .inr ⟨h.1.1.2, h.1.2, h.2⟩⟩
    · exact ⟨h.2.1.1, h.2.1.2, h.2.2, .inl h.1⟩
  obtain ⟨a, b, c', d⟩ := h'
  unfold qch
  rw [if_neg (by omega), if_neg (by omega), if_neg (by rcases d with rfl | d <;> simp <;> omega), if_neg (by omega)]
theorem qch_rest {esc : Bool} {c : Nat} {bs : List UInt8} (hc : 128 ≤ c) (h : c ≠ 8232 ∧ c ≠ 8233) : qch esc c bs = bs := by
  unfold qch
  rw [if_neg (by omega), if_neg (by omega), if_neg (by omega), if_neg (by omega)]
theorem qch_sep {esc : Bool} {c : Nat} {bs : List UInt8} (h : c = 8232 ∨ c = 8233) : qch esc c bs = [92, 117, 50, 48, 50, UInt8.ofNat (c - 8176)] := by
  unfold qch
  rw [if_neg (by omega), if_neg (by omega), if_neg (by omega), if_pos h]
theorem qch_quote {esc : Bool} {c : Nat} {bs : List UInt8} (h : c = 34 ∨ c = 92) : qch esc c bs = [92, UInt8.ofNat c] := by
  unfold qch; rw [if_pos h]
theorem qch_ltr {esc : Bool} {c : Nat} {bs : List UInt8} (h : c = 8 ∨ c = 9 ∨ c = 10 ∨ c = 12 ∨ c = 13) : qch esc c bs = [92, ltr c] := by
  unfold qch; rw [if_neg (by omega), if_pos h]
theorem qch_hex {esc : Bool} {c : Nat} {bs : List UInt8} (h1 : c ≠ 34 ∧ c ≠ 92 ∧ c ≠ 8 ∧ c ≠ 9 ∧ c ≠ 10 ∧ c ≠ 12 ∧ c ≠ 13) (hc : c < 128) (h : ¬ htmlC c = true ∧ ¬ (esc = false ∧ safeC c = true)) :
    qch esc c bs = [92, 117, 48, 48, hexC (c / 16), hexC (c % 16)] := by
  unfold qch
  rw [if_neg (by omega), if_neg (by omega), if_pos ?_]
  unfold htmlC safeC at h
  simp only [Bool.and_eq_true, decide_eq_true_eq] at h
  obtain ⟨a, b⟩ := h
  by_cases h32 : c < 32
  · exact .inl h32
  · cases esc with
    | true => exact .inr ⟨rfl, by omega⟩
    | false => exact absurd ⟨rfl, ⟨by omega, by omega⟩, by omega⟩ b
end Go.Proofs.YtpinoabhaaemfaaDoor.Abs
