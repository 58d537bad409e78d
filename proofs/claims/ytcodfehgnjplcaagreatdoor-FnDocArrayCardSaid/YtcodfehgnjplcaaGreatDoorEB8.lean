/- The element with a number, of a document of any bytes. -/
import Derived.Test.YtcodfehgnjplcaaGreatDoorTR8
namespace Go.Proofs.YtcodfehgnjplcaaGreatDoor.Abs
set_option linter.all false
open Go.Proofs
set_option linter.unusedVariables false
set_option linter.unusedSimpArgs false
set_option maxRecDepth 100000
set_option maxHeartbeats 8000000

theorem l_indexErr {o : Option (List UInt8)} {k : Nat} (hk64 : k < 18446744073709551616) : ∀ (f : Nat) (n : Int) (l : List UInt8) (c j : Nat) (st : St), st.s 0 = bAV 5 o → st.s 1 = .int .u64 k → st.s 6 = .int .i32 n → st.s 7 = bAV 5 (some l) → st.s 9 = .int .u64 c → c + j = k →
    l.length < f → l.length < 2147483648 → -2147483648 ≤ n → n < 2147483648 → ∀ Q : Ex × St → Prop,
    ((elemAt f n l j).1 = 2 → ∀ st' : St, st'.h = st.h → Q (.exit 0, st')) →
    ((elemAt f n l j).1 = 1 → ∀ st' : St, st'.h = st.h → st'.s 4 = bAV 5 none → st'.s 5 = xFew o (some (elemAt f n l j).2) → Q (.ret, st')) →
    ((elemAt f n l j).1 = 0 → ∀ st' : St, st'.h = st.h → st'.s 4 = bAV 5 (some (elemAt f n l j).2) → st'.s 5 = .nilI → Q (.ret, st')) → LoopR fns lc169_0 st Q
  | 0, n, l, c, j, st, h0, h1, h4, h5, h9, hc, hf, hl, hn0, hn1, Q, hA, hB, hC => by omega
  | f + 1, n, l, c, j, st, h0, h1, h4, h5, h9, hc, hf, hl, hn0, hn1, Q, hA, hB, hC => by
    refine loopω_run fns ?_
    have e0 : AV.slice .nil 0 1 [] = bAV 5 none := rfl
    by_cases hn : n ≤ 1
    · have g : ¬ (1 < n) := by omega
      simp only [elemAt, hn, if_true] at hA
      simp [h4, g]
      refine hA (by simp) _ ?_ <;> simp
    · have g : 1 < n := by omega
      have hr := c_ReadElement l hl
      cases he : eGet l with
      | none =>
        have e : eRes l = .tup [bAV 5 none, bAV 5 (some l), .bool false] := by simp [eRes, he]
        rw [e] at hr
        have hi := c_NewIBE o (some l)
        simp only [elemAt, hn, if_false, he] at hB
        have w0 : IntKind.i32.wrap 0 = 0 := rfl
        have w1 : IntKind.i32.wrap n = n := i32_small hn0 hn1
        simp [xFew, h0, h1, h4, h5, h9, g, hr, hi, mk_few, ex3_0, ex3_1, ex3_2, bl, w0, w1]
        refine hB (by simp) _ ?_ ?_ ?_ <;> simp [xFew, e0]
      | some m =>
        have hm := eGet_le he
        have e : eRes l = .tup [bAV 5 (some (l.take m)), bAV 5 (some (l.drop m)), .bool true] := by simp [eRes, he]
        rw [e] at hr
        have hX : (l.take m).length = m := by simp; omega
        have hY : (l.drop m).length = l.length - m := by simp
        have w0 : IntKind.i32.wrap (m : Int) = m := i32_small (by omega) (by omega)
        have w1 : IntKind.i32.wrap (n - m) = n - m := i32_small (by omega) (by omega)
        simp only [elemAt, hn, if_false, he] at hA hB hC
        generalize l.take m = X at *
        cases j with
        | zero =>
          have hck : (c : Int) = k := by omega
          simp only at hC
          simp [h0, h1, h4, h5, h9, g, hr, ex3_0, ex3_1, ex3_2, bl, hX, w0, w1, hck]
          refine hC (by simp) _ ?_ ?_ ?_ <;> simp
        | succ j =>
          have hck : ¬ (c : Int) = k := by omega
          have hck2 : ¬ c = k := by omega
          have w2 : IntKind.u64.wrap ((c : Int) + 1) = (c + 1 : Nat) := by simp [IntKind.wrap, IntKind.signed, IntKind.bits]; omega
          simp only at hA hB hC
          simp [h0, h1, h4, h5, h9, g, hr, ex3_0, ex3_1, ex3_2, bl, hX, w0, w1, hck, hck2, w2]
          refine l_indexErr hk64 (o := o) f (n - m) (l.drop m) (c + 1) j _ ?_ ?_ ?_ ?_ ?_ (by omega) (by omega) (by omega) (by omega) (by omega) Q (fun hb st' k1 => hA hb st' ?_) (fun hb st' k1 k2 k3 => hB hb st' ?_ k2 k3) (fun hb st' k1 k2 k3 => hC hb st' ?_ k2 k3)
          · simp [h0]
          · simp [h1]
          · simp
          · simp
          · simp
          · rw [k1]
          · rw [k1]
          · rw [k1]
def atR (l : List UInt8) (k : Nat) : Nat × List UInt8 := if okL l then elemAt (l.length + 1) (num32 l - 4) (l.drop 4) k else (3, [])
def atV (s : Nat → Nat × Nat) (l : List UInt8) (k : Nat) : AV :=
  if (atR l k).1 = 0 then .nilI else if (atR l k).1 = 1 then xFew (some l) (some (atR l k).2) else if (atR l k).1 = 2 then sE (s 0) else xFew (some l) (rest4 (some l))
def atE (l : List UInt8) (k : Nat) : Option (List UInt8) := if (atR l k).1 = 0 then some (atR l k).2 else none
theorem elemAt_lt : ∀ (f : Nat) (n : Int) (l : List UInt8) (k : Nat), (elemAt f n l k).1 < 3
  | 0, n, l, k => by simp [elemAt]
  | f + 1, n, l, k => by
    simp only [elemAt]
    split
    · simp
    · split
      · simp
      · split
        · simp
        · exact elemAt_lt f _ _ _
theorem c_indexErr (l : List UInt8) (hl : l.length < 2147483648) (k : Nat) (hk64 : k < 18446744073709551616) {s : Nat → Nat × Nat} {hE : H} (hS : Sens hE.Γ s) : callω fns 169 [bAV 5 (some l), .int .u64 k] hE =
    some (.tup [bAV 5 (atE l k), atV s l k], hE) := by
  have e0 : AV.slice .nil 0 1 [] = bAV 5 none := rfl
  have hR := c_RLen (some l)
  simp only [bl] at hR
  unfold atE atV atR
  by_cases hk : okL l = true
  case neg =>
    simp only [Bool.not_eq_true] at hk
    have hi := c_NewIBE (some l) (rest4 (some l))
    rw [hk] at hR
    generalize rest4 (some l) = R at *
    refine run169 (Nat.le_of_ble_eq_true rfl) ?_
    simp [hR, hk, hi, xFew, mkI, ex3_0, ex3_1, ex3_2, e0]
  case pos =>
    obtain ⟨h4, h0⟩ := okL_le hk
    rw [hk, rest4_some h4] at hR
    have hr := num32_range l
    have w : IntKind.i32.wrap (num32 l - 4) = num32 l - 4 := i32_small (by omega) (by omega)
    have hd : (l.drop 4).length = l.length - 4 := by simp
    simp only [hk, if_true]
    have hlt := elemAt_lt (l.length + 1) (num32 l - 4) (l.drop 4) k
    generalize hN : num32 l = N at *
    generalize hL : l.drop 4 = L at *
    refine run169 (Nat.le_of_ble_eq_true rfl) ?_
    simp [hR, w, ex3_0, ex3_1, ex3_2]
    refine l_indexErr (o := some l) hk64 (l.length + 1) (N - 4) L 0 k _ ?_ ?_ ?_ ?_ ?_ (by omega) (by omega) (by omega) (by omega) (by omega) _ (fun hb st' k1 => ?_) (fun hb st' k1 k2 k3 => ?_) (fun hb st' k1 k2 k3 => ?_)
    · simp
    · simp
    · simp
    · simp
    · simp
    · have hg := hS.g0
      simp [k1, hb, hg, glV, sE, e0]
    · simp only [xFew] at k3
      simp [k1, k2, k3, hb, xFew]
    · simp [k1, k2, k3, hb]
theorem atV_cases (s : Nat → Nat × Nat) (l : List UInt8) (k : Nat) : (atV s l k = .nilI ∧ (atR l k).1 = 0) ∨ (∃ a b, atV s l k = xFew a b ∧ ((atR l k).1 = 1 ∨ (atR l k).1 = 3)) ∨ (atV s l k = sE (s 0) ∧ (atR l k).1 = 2) := by
  have hlt : (atR l k).1 = 0 ∨ (atR l k).1 = 1 ∨ (atR l k).1 = 2 ∨ (atR l k).1 = 3 := by
    unfold atR
    split
    · have := elemAt_lt (l.length + 1) (num32 l - 4) (l.drop 4) k; omega
    · simp
  unfold atV
  rcases hlt with h | h | h | h <;> rw [h]
  · exact .inl ⟨rfl, rfl⟩
  · exact .inr (.inl ⟨_, _, rfl, .inl rfl⟩)
  · exact .inr (.inr ⟨rfl, rfl⟩)
  · exact .inr (.inl ⟨_, _, rfl, .inr rfl⟩)
def atC (l : List UInt8) (k : Nat) : Int := if (atR l k).1 = 0 then 0 else if (atR l k).1 = 2 then 7 else 1
end Go.Proofs.YtcodfehgnjplcaaGreatDoor.Abs
