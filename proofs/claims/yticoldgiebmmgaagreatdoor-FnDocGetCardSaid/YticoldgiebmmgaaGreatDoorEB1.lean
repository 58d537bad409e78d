/- Lengths, values and elements of any bytes whatever. -/
import Derived.Test.YticoldgiebmmgaaGreatDoorERdLen
import Derived.Test.YticoldgiebmmgaaGreatDoorTR9
namespace Go.Proofs.YticoldgiebmmgaaGreatDoor.Abs
set_option linter.all false
open Go.Proofs
set_option linter.unusedVariables false
set_option linter.unusedSimpArgs false
set_option maxRecDepth 100000
set_option maxHeartbeats 8000000

theorem i32_small {n : Int} (h0 : -2147483648 ≤ n) (h1 : n < 2147483648) : IntKind.i32.wrap n = n := by simp [IntKind.wrap, IntKind.signed, IntKind.bits]; omega
theorem ibV_b {h : H} {e : Nat} {o : Option (List UInt8)} {c : Int} : ibV h (bAV e o) (.int .u8 c) = some (.int .i64 (Go.Lib.indexByte (bl o) (UInt8.ofNat c.toNat))) := by
  have h1 : (bAV e o).isOwn = false := by cases o <;> rfl
  simp [ibV, h1]
theorem c_IndexByte (o : Option (List UInt8)) (c : Int) : ∀ hE : H, callω fns 155 [bAV 5 o, .int .u8 c] hE = some (.int .i64 (Go.Lib.indexByte (bl o) (UInt8.ofNat c.toNat)), hE) := by
  intro hE
  refine run155 (Nat.le_of_ble_eq_true rfl) ?_
  simp [ibV_b]
theorem c_IndexNul (o : Option (List UInt8)) : ∀ hE : H, callω fns 155 [bAV 5 o, .int .u8 0] hE = some (.int .i64 (match nul (bl o) with | some i => (i : Int) | none => -1), hE) := by
  have h := c_IndexByte o 0
  have z0 : UInt8.ofNat (0 : Int).toNat = 0 := rfl
  rw [z0, indexByte_nul] at h
  exact h
def rest4 : Option (List UInt8) → Option (List UInt8)
  | some (_ :: _ :: _ :: _ :: r) => some r
  | o => o
def okL (l : List UInt8) : Bool := decide (4 ≤ l.length) && decide (0 ≤ num32 l)
theorem c_RLen (o : Option (List UInt8)) : ∀ hE : H, callω fns 77 [bAV 5 o] hE = some (.tup [.int .i32 (num32 (bl o)), bAV 5 (rest4 o), .bool (okL (bl o))], hE) := by
  intro hE
  by_cases h : (bl o).length < 4
  · have e1 : rest4 o = o := by
      cases o with
      | none => rfl
      | some l =>
        match l, h with
        | [], _ => rfl
        | [_], _ => rfl
        | [_, _], _ => rfl
        | [_, _, _], _ => rfl
        | _ :: _ :: _ :: _ :: r, h => simp [bl] at h; omega
    have e2 : okL (bl o) = false := by unfold okL; have : ¬ 4 ≤ (bl o).length := by omega
                                       simp [this]
    rw [num32_short h, e1, e2]
    exact c_ReadLength_short o h hE
  · match o, h with
    | none, h => simp [bl] at h
    | some [], h => simp [bl] at h
    | some [_], h => simp [bl] at h
    | some [_, _], h => simp [bl] at h
    | some [_, _, _], h => simp [bl] at h
    | some (a :: b :: c :: d :: r), _ =>
      have := c_ReadLength a b c d r hE
      rw [this]
      have hlen : 4 ≤ (bl (some (a :: b :: c :: d :: r))).length := by simp [bl]
      have e : okL (bl (some (a :: b :: c :: d :: r))) = decide (0 ≤ rd32 a b c d) := by unfold okL; simp only [hlen, decide_true, Bool.true_and]; rfl
      rw [e]; rfl
theorem okL_le {l : List UInt8} (h : okL l = true) : 4 ≤ l.length ∧ 0 ≤ num32 l := by
  unfold okL at h; simp only [Bool.and_eq_true, decide_eq_true_eq] at h; exact h
theorem lenD_ok {d : Int} {l : List UInt8} (hd : 0 ≤ d ∧ d ≤ 16) : ∃ n, n = IntKind.i32.wrap (num32 l + d) ∧ ((if n < 0 then false else okL l) = (lenD d l).isSome) ∧ ∀ m, lenD d l = some m → n = m ∧ m < 2147483648 := by
  refine ⟨_, rfl, ?_, fun m h => ?_⟩
  · obtain ⟨r1, r2⟩ := num32_range l
    unfold lenD
    by_cases hk : okL l = true
    · obtain ⟨h1, h2⟩ := okL_le hk
      rw [hk]
      by_cases h3 : num32 l + d < 2147483648
      · rw [i32_small (by omega) h3, if_neg (by omega), if_pos ⟨h1, h2, h3⟩]; rfl
      · have : IntKind.i32.wrap (num32 l + d) < 0 := by rw [i32_wrap]; split <;> omega
        rw [if_pos this, if_neg (fun h => h3 h.2.2)]; rfl
    · have : ¬ (4 ≤ l.length ∧ 0 ≤ num32 l ∧ num32 l + d < 2147483648) := fun h => hk (by unfold okL; simp [h.1, h.2.1])
      rw [if_neg this]
      simp only [Bool.not_eq_true] at hk
      rw [hk]; split <;> rfl
  · unfold lenD at h
    split at h
    · rename_i hc
      injection h with h; subst h
      rw [i32_small (by omega) hc.2.2]; omega
    · cases h
theorem kinds_cases (k : Int) : ((k = 3 ∨ k = 4 ∨ k = 15 ∨ k = 5 ∨ k = 12 ∨ k = 13 ∨ k = 2 ∨ k = 14) ∨ (k = 8 ∨ k = 9 ∨ k = 1 ∨ k = 18 ∨ k = 17 ∨ k = 19 ∨ k = 16 ∨ k = 127 ∨ k = 255 ∨ k = 10 ∨ k = 6 ∨ k = 7)) ∨ k = 11 ∨
    (k ≠ 1 ∧ k ≠ 2 ∧ k ≠ 3 ∧ k ≠ 4 ∧ k ≠ 5 ∧ k ≠ 6 ∧ k ≠ 7 ∧ k ≠ 8 ∧ k ≠ 9 ∧ k ≠ 10 ∧ k ≠ 11 ∧ k ≠ 12 ∧ k ≠ 13 ∧ k ≠ 14 ∧ k ≠ 15 ∧ k ≠ 16 ∧ k ≠ 17 ∧ k ≠ 18 ∧ k ≠ 19 ∧ k ≠ 127 ∧ k ≠ 255) := by omega

theorem c_vLen (k : Int) (o : Option (List UInt8)) (hl : (bl o).length < 2147483648) : ∃ n, (∀ hE : H, callω fns 152 [bAV 5 o, .int .u8 k] hE = some (.tup [.int .i32 n, .bool (vLen k (bl o)).isSome], hE)) ∧ ∀ m, vLen k (bl o) = some m → n = m ∧ m < 2147483648 := by
  have hR := c_RLen o
  have num : ∀ d : Int, (0 ≤ d ∧ d ≤ 16) → vLen k (bl o) = lenD d (bl o) → (k = 3 ∨ k = 4 ∨ k = 15) ∧ d = 0 ∨ k = 5 ∧ d = 5 ∨ k = 12 ∧ d = 16 ∨ (k = 13 ∨ k = 2 ∨ k = 14) ∧ d = 4 →
      ∃ n, (∀ hE : H, callω fns 152 [bAV 5 o, .int .u8 k] hE = some (.tup [.int .i32 n, .bool (vLen k (bl o)).isSome], hE)) ∧ ∀ m, vLen k (bl o) = some m → n = m ∧ m < 2147483648 := by
    intro d hd hv hk
    obtain ⟨n, hn, h1, h2⟩ := lenD_ok (l := bl o) hd
    obtain ⟨r1, r2⟩ := num32_range (bl o)
    rw [hv]
    refine ⟨n, fun hE => ?_, h2⟩
    rw [← h1]
    refine run152 (Nat.le_of_ble_eq_true rfl) ?_
    generalize okL (bl o) = b at *
    rcases hk with ⟨rfl | rfl | rfl, rfl⟩ | ⟨rfl, rfl⟩ | ⟨rfl, rfl⟩ | ⟨rfl | rfl | rfl, rfl⟩ <;>
      (by_cases h0 : n < 0) <;> first
        | (have e : n = num32 (bl o) := by rw [hn, Int.add_zero, i32_small r1 r2]
           rw [e] at h0 ⊢; simp [hR, h0, exV])
        | (simp [hR, ← hn, h0, exV])
  have fixed : ∀ z : Nat, vLen k (bl o) = some z → z < 100 → (∀ hE : H, callω fns 152 [bAV 5 o, .int .u8 k] hE = some (.tup [.int .i32 z, .bool true], hE)) →
      ∃ n, (∀ hE : H, callω fns 152 [bAV 5 o, .int .u8 k] hE = some (.tup [.int .i32 n, .bool (vLen k (bl o)).isSome], hE)) ∧ ∀ m, vLen k (bl o) = some m → n = m ∧ m < 2147483648 := by
    intro z hv hz h
    rw [hv]
    exact ⟨z, h, fun m hm => by injection hm with hm; subst hm; exact ⟨rfl, by omega⟩⟩
  rcases kinds_cases k with (hk | hk) | rfl | hk
  · rcases hk with rfl | rfl | rfl | rfl | rfl | rfl | rfl | rfl
    · exact num 0 (by omega) rfl (by omega)
    · exact num 0 (by omega) rfl (by omega)
    · exact num 0 (by omega) rfl (by omega)
    · exact num 5 (by omega) rfl (by omega)
    · exact num 16 (by omega) rfl (by omega)
    · exact num 4 (by omega) rfl (by omega)
    · exact num 4 (by omega) rfl (by omega)
    · exact num 4 (by omega) rfl (by omega)
  · rcases hk with rfl | rfl | rfl | rfl | rfl | rfl | rfl | rfl | rfl | rfl | rfl | rfl
    · exact fixed 1 rfl (by omega) fun hE => run152 (Nat.le_of_ble_eq_true rfl) (by simp)
    · exact fixed 8 rfl (by omega) fun hE => run152 (Nat.le_of_ble_eq_true rfl) (by simp)
    · exact fixed 8 rfl (by omega) fun hE => run152 (Nat.le_of_ble_eq_true rfl) (by simp)
    · exact fixed 8 rfl (by omega) fun hE => run152 (Nat.le_of_ble_eq_true rfl) (by simp)
    · exact fixed 8 rfl (by omega) fun hE => run152 (Nat.le_of_ble_eq_true rfl) (by simp)
    · exact fixed 16 rfl (by omega) fun hE => run152 (Nat.le_of_ble_eq_true rfl) (by simp)
    · exact fixed 4 rfl (by omega) fun hE => run152 (Nat.le_of_ble_eq_true rfl) (by simp)
    · exact fixed 0 rfl (by omega) fun hE => run152 (Nat.le_of_ble_eq_true rfl) (by simp)
    · exact fixed 0 rfl (by omega) fun hE => run152 (Nat.le_of_ble_eq_true rfl) (by simp)
    · exact fixed 0 rfl (by omega) fun hE => run152 (Nat.le_of_ble_eq_true rfl) (by simp)
    · exact fixed 0 rfl (by omega) fun hE => run152 (Nat.le_of_ble_eq_true rfl) (by simp)
    · exact fixed 12 rfl (by omega) fun hE => run152 (Nat.le_of_ble_eq_true rfl) (by simp)
  · have hv : vLen 11 (bl o) = rxLen (bl o) := rfl
    rw [hv]
    have hI := c_IndexNul o
    unfold rxLen
    cases h1 : nul (bl o) with
    | none =>
      rw [h1] at hI
      refine ⟨0, fun hE => ?_, fun m hm => by cases hm⟩
      refine run152 (Nat.le_of_ble_eq_true rfl) ?_
      simp [hI]
    | some i =>
      rw [h1] at hI
      have hil := (nul_lt h1).1
      cases o with
      | none => simp [bl] at hil
      | some l =>
        simp only [bl] at h1 hil hl hI ⊢
        have hJ := c_IndexNul (some (l.drop (i + 1)))
        simp only [bl] at hJ
        have hs : ∀ h : H, slSl h 1 (bAV 5 (some l)) (some ((i : Int) + 1)) (some (l.length : Int)) = some (bAV 5 (some (l.drop (i + 1)))) := fun h => by
          rw [sl_b (by omega) (by omega) (by omega)]
          have e1 : ((i : Int) + 1).toNat = i + 1 := by omega
          rw [e1, Int.toNat_natCast, List.take_of_length_le (by rw [List.length_drop]; omega)]
        have w1 : IntKind.i64.wrap ((i : Int) + 1) = i + 1 := wrap_i64 (by omega) (by omega)
        have gi : ¬ ((i : Int) < 0) := by omega
        cases h2 : nul (l.drop (i + 1)) with
        | none =>
          rw [h2] at hJ
          refine ⟨0, fun hE => ?_, fun m hm => by simp [h2] at hm⟩
          refine run152 (Nat.le_of_ble_eq_true rfl) ?_
          simp [hI, w1, gi, hs, hJ, bl, h2]
        | some j =>
          rw [h2] at hJ
          have hjl := (nul_lt h2).1
          rw [List.length_drop] at hjl
          have gj : ¬ ((j : Int) < 0) := by omega
          have w2 : IntKind.i64.wrap ((i : Int) + 1 + j) = i + 1 + j := wrap_i64 (by omega) (by omega)
          have w3 : IntKind.i64.wrap ((i : Int) + 1 + j + 1) = i + 1 + j + 1 := wrap_i64 (by omega) (by omega)
          have w4 : IntKind.i32.wrap ((i : Int) + 1 + j + 1) = i + 1 + j + 1 := i32_small (by omega) (by omega)
          have ge : ¬ ((i : Int) + 1 + j + 1 < 0) := by omega
          refine ⟨(i : Int) + 1 + j + 1, fun hE => ?_, fun m hm => by simp [h2] at hm; omega⟩
          refine run152 (Nat.le_of_ble_eq_true rfl) ?_
          simp [hI, w1, w2, w3, w4, gi, gj, ge, hs, hJ, bl, h2]
  · obtain ⟨h1, h2, h3, h4, h5, h6, h7, h8, h9, h10, h11, h12, h13, h14, h15, h16, h17, h18, h19, h20, h21⟩ := hk
    have hv : vLen k (bl o) = none := by
      unfold vLen; simp [h1, h2, h3, h4, h5, h6, h7, h8, h9, h10, h11, h12, h13, h14, h15, h16, h17, h18, h19, h20, h21]
    rw [hv]
    refine ⟨0, fun hE => ?_, fun m hm => by cases hm⟩
    refine run152 (Nat.le_of_ble_eq_true rfl) ?_
    simp [h1, h2, h3, h4, h5, h6, h7, h8, h9, h10, h11, h12, h13, h14, h15, h16, h17, h18, h19, h20, h21]
end Go.Proofs.YticoldgiebmmgaaGreatDoor.Abs
