/- Texts read rune by rune: where there is no byte 0, no rune is 0. -/
import Derived.Test.YtdnfnobgeddbfaaDoorA28
namespace Go.Proofs.YtdnfnobgeddbfaaDoor.Abs
set_option linter.all false
set_option linter.unusedVariables false

theorem get!_list (l : List UInt8) (k : Nat) : (ByteArray.mk l.toArray).get! k = (l[k]?).getD 0 := by
  simp only [ByteArray.get!]
  rw [Array.getElem!_eq_getD, Array.getD_eq_getD_getElem?]
  simp [List.getElem?_toArray]; rfl

theorem decode_plain {l : List UInt8} {i : Nat} (hp : ∀ k (h : k < l.length), l[k] ≠ 0) (hi : i < l.length) :
    (Utf8.decode ⟨l.toArray⟩ i).1 ≠ 0 ∧ 1 ≤ (Utf8.decode ⟨l.toArray⟩ i).2 ∧ i + (Utf8.decode ⟨l.toArray⟩ i).2 ≤ l.length ∧ (Utf8.decode ⟨l.toArray⟩ i).1 ≤ 0x10FFFF := by
  unfold Utf8.decode
  simp only [get!_list]
  have hsz : (ByteArray.mk l.toArray).size = l.length := by simp [ByteArray.size]
  rw [hsz]
  have h0 : ((l[i + 0]?).getD 0).toNat ≠ 0 := by
    rw [Nat.add_zero, List.getElem?_eq_getElem hi, Option.getD_some]
    intro e; exact hp i hi (UInt8.toNat_inj.1 e)
  have b0 := ((l[i + 0]?).getD 0).toNat_lt
  have b1 := ((l[i + 1]?).getD 0).toNat_lt
  have b2 := ((l[i + 2]?).getD 0).toNat_lt
  have b3 := ((l[i + 3]?).getD 0).toNat_lt
  generalize ((l[i + 0]?).getD 0).toNat = c0 at *
  generalize ((l[i + 1]?).getD 0).toNat = c1 at *
  generalize ((l[i + 2]?).getD 0).toNat = c2 at *
  generalize ((l[i + 3]?).getD 0).toNat = c3 at *
  split
  · exact ⟨h0, by simp, by simp; omega, by simp; omega⟩
  · split
    · rename_i h1 h2
      simp only [Bool.and_eq_true, decide_eq_true_eq] at h2
      split <;> refine ⟨?_, by simp, ?_, ?_⟩ <;> simp [Utf8.runeError] <;> omega
    · split
      · rename_i h1 h2 h3
        simp only [Bool.and_eq_true, decide_eq_true_eq] at h3
        split
        · rename_i h4
          simp only [Bool.and_eq_true, decide_eq_true_eq] at h4
          refine ⟨?_, by simp, ?_, ?_⟩ <;> simp <;> omega
        · refine ⟨?_, by simp, ?_, ?_⟩ <;> simp [Utf8.runeError] <;> omega
      · split
        · rename_i h1 h2 h3 h4
          simp only [Bool.and_eq_true, decide_eq_true_eq] at h4
          split
          · rename_i h5
            simp only [Bool.and_eq_true, decide_eq_true_eq, Utf8.valid, Bool.or_eq_true] at h5
            refine ⟨?_, by simp, ?_, ?_⟩ <;> simp <;> omega
          · refine ⟨?_, by simp, ?_, ?_⟩ <;> simp [Utf8.runeError] <;> omega
        · refine ⟨?_, by simp, ?_, ?_⟩ <;> simp [Utf8.runeError] <;> omega

theorem plainL_spec : ∀ {l : List UInt8}, plainL l = true → ∀ k (h : k < l.length), l[k] ≠ 0 := by
  intro l
  induction l with
  | nil => intro _ k h; simp at h
  | cons c l ih =>
    intro h k hk
    simp only [plainL] at h
    split at h
    · cases h
    · rename_i hc
      cases k with
      | zero => simpa using hc
      | succ k => simpa using ih h k (by simpa using hk)

/-- One step of a range over a plain text. -/
theorem iterNext_plain {l : List UInt8} {pos : Nat} (hp : plainL l = true) (hi : pos < l.length) :
    ∃ r w : Nat, iterNext l pos = (.tup [.bool true, .int .i64 pos, .int .i32 r], .iter l (pos + w)) ∧ r ≠ 0 ∧ 1 ≤ w ∧ pos + w ≤ l.length := by
  obtain ⟨h1, h2, h3, h4⟩ := decode_plain (plainL_spec hp) hi
  exact ⟨_, _, by unfold iterNext; rw [if_pos hi], h1, h2, h3⟩
theorem iterNext_end {l : List UInt8} {pos : Nat} (hi : l.length ≤ pos) : iterNext l pos = (.tup [.bool false], .iter l pos) := by
  unfold iterNext; rw [if_neg (by omega)]
theorem nextV_loc {st : St} {t : Nat} {s : List UInt8} {pos : Nat} (h : st.b t = some (.iter s pos)) : nextV (.ptr (.loc t) 0) st = some ((iterNext s pos).1, st.setAt (.loc t) (iterNext s pos).2) := by
  simp [nextV, h]
theorem nextV_obj {st : St} {i : Nat} {s : List UInt8} {pos : Nat} (h : st.h.get i = some (.iter s pos)) : nextV (.ptr (.obj i) 0) st = some ((iterNext s pos).1, st.setAt (.obj i) (iterNext s pos).2) := by
  simp [nextV, h]
end Go.Proofs.YtdnfnobgeddbfaaDoor.Abs
