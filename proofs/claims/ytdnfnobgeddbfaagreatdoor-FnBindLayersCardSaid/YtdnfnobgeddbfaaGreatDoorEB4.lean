/- EB1, EB2, EB3, EB4 -/
import Derived.Test.YtdnfnobgeddbfaaGreatDoorERdLen
import Derived.Test.YtdnfnobgeddbfaaGreatDoorTR7
/- Lengths, values and elements of any bytes whatever. -/
namespace Go.Proofs.YtdnfnobgeddbfaaGreatDoor.Abs
set_option linter.all false
open Go.Proofs
set_option linter.unusedVariables false
set_option linter.unusedSimpArgs false
set_option maxRecDepth 100000
set_option maxHeartbeats 8000000

theorem i32_small {n : Int} (h0 : -2147483648 ≤ n) (h1 : n < 2147483648) : IntKind.i32.wrap n = n := by simp [IntKind.wrap, IntKind.signed, IntKind.bits]; omega
theorem ibV_b {h : H} {e : Nat} {o : Option (List UInt8)} {c : Int} : ibV h (bAV e o) (.int .u8 c) = some (.int .i64 (Go.Lib.indexByte (bl o) (UInt8.ofNat c.toNat))) := by
  have h1 : (bAV e o).isOwn = false := by cases o <;> rfl
  simp [ibV, h1]
theorem c_IndexByte (o : Option (List UInt8)) (c : Int) : ∀ hE : H, callω fns 59 [bAV 5 o, .int .u8 c] hE = some (.int .i64 (Go.Lib.indexByte (bl o) (UInt8.ofNat c.toNat)), hE) := by
  intro hE
  refine run59 (Nat.le_of_ble_eq_true rfl) ?_
  simp [ibV_b]
theorem c_IndexNul (o : Option (List UInt8)) : ∀ hE : H, callω fns 59 [bAV 5 o, .int .u8 0] hE = some (.int .i64 (match nul (bl o) with | some i => (i : Int) | none => -1), hE) := by
  have h := c_IndexByte o 0
  have z0 : UInt8.ofNat (0 : Int).toNat = 0 := rfl
  rw [z0, indexByte_nul] at h
  exact h
def rest4 : Option (List UInt8) → Option (List UInt8)
  | some (_ :: _ :: _ :: _ :: r) => some r
  | o => o
def okL (l : List UInt8) : Bool := decide (4 ≤ l.length) && decide (0 ≤ num32 l)
theorem c_RLen (o : Option (List UInt8)) : ∀ hE : H, callω fns 38 [bAV 5 o] hE = some (.tup [.int .i32 (num32 (bl o)), bAV 5 (rest4 o), .bool (okL (bl o))], hE) := by
  intro hE
  by_cases h : (bl o).length < 4
  · have e1 : rest4 o = o := by
      cases o with
      | none => rfl
      | some l =>
        match l, h with
        | [], _ => rfl
        | [_], _ => rfl
        | [_, _], _ => rfl
        | [_, _, _], _ => rfl
        | _ :: _ :: _ :: _ :: r, h => simp [bl] at h; omega
    have e2 : okL (bl o) = false := by unfold okL; have : ¬ 4 ≤ (bl o).length := by omega
                                       simp [this]
    rw [num32_short h, e1, e2]
    exact c_ReadLength_short o h hE
  · match o, h with
    | none, h => simp [bl] at h
    | some [], h => simp [bl] at h
    | some [_], h => simp [bl] at h
    | some [_, _], h => simp [bl] at h
    | some [_, _, _], h => simp [bl] at h
    | some (a :: b :: c :: d :: r), _ =>
      have := c_ReadLength a b c d r hE
      rw [this]
      have hlen : 4 ≤ (bl (some (a :: b :: c :: d :: r))).length := by simp [bl]
      have e : okL (bl (some (a :: b :: c :: d :: r))) = decide (0 ≤ rd32 a b c d) := by unfold okL; simp only [hlen, decide_true, Bool.true_and]; rfl
      rw [e]; rfl
theorem okL_le {l : List UInt8} (h : okL l = true) : 4 ≤ l.length ∧ 0 ≤ num32 l := by
  unfold okL at h; simp only [Bool.and_eq_true, decide_eq_true_eq] at h; exact h
theorem lenD_ok {d : Int} {l : List UInt8} (hd : 0 ≤ d ∧ d ≤ 16) : ∃ n, n = IntKind.i32.wrap (num32 l + d) ∧ ((if n < 0 then false else okL l) = (lenD d l).isSome) ∧ ∀ m, lenD d l = some m → n = m ∧ m < 2147483648 := by
  refine ⟨_, rfl, ?_, fun m h => ?_⟩
  · obtain ⟨r1, r2⟩ := num32_range l
    unfold lenD
    by_cases hk : okL l = true
    · obtain ⟨h1, h2⟩ := okL_le hk
      rw [hk]
      by_cases h3 : num32 l + d < 2147483648
      · rw [i32_small (by omega) h3, if_neg (by omega), if_pos ⟨h1, h2, h3⟩]; rfl
      · have : IntKind.i32.wrap (num32 l + d) < 0 := by rw [i32_wrap]; split <;> omega
        rw [if_pos this, if_neg (fun h => h3 h.2.2)]; rfl
    · have : ¬ (4 ≤ l.length ∧ 0 ≤ num32 l ∧ num32 l + d < 2147483648) := fun h => hk (by unfold okL; simp [h.1, h.2.1])
      rw [if_neg this]
      simp only [Bool.not_eq_true] at hk
      rw [hk]; split <;> rfl
  · unfold lenD at h
    split at h
    · rename_i hc
      injection h with h; subst h
      rw [i32_small (by omega) hc.2.2]; omega
    · cases h
theorem kinds_cases (k : Int) : ((k = 3 ∨ k = 4 ∨ k = 15 ∨ k = 5 ∨ k = 12 ∨ k = 13 ∨ k = 2 ∨ k = 14) ∨ (k = 8 ∨ k = 9 ∨ k = 1 ∨ k = 18 ∨ k = 17 ∨ k = 19 ∨ k = 16 ∨ k = 127 ∨ k = 255 ∨ k = 10 ∨ k = 6 ∨ k = 7)) ∨ k = 11 ∨
    (k ≠ 1 ∧ k ≠ 2 ∧ k ≠ 3 ∧ k ≠ 4 ∧ k ≠ 5 ∧ k ≠ 6 ∧ k ≠ 7 ∧ k ≠ 8 ∧ k ≠ 9 ∧ k ≠ 10 ∧ k ≠ 11 ∧ k ≠ 12 ∧ k ≠ 13 ∧ k ≠ 14 ∧ k ≠ 15 ∧ k ≠ 16 ∧ k ≠ 17 ∧ k ≠ 18 ∧ k ≠ 19 ∧ k ≠ 127 ∧ k ≠ 255) := by omega

theorem c_vLen (k : Int) (o : Option (List UInt8)) (hl : (bl o).length < 2147483648) : ∃ n, (∀ hE : H, callω fns 58 [bAV 5 o, .int .u8 k] hE = some (.tup [.int .i32 n, .bool (vLen k (bl o)).isSome], hE)) ∧ ∀ m, vLen k (bl o) = some m → n = m ∧ m < 2147483648 := by
  have hR := c_RLen o
  have num : ∀ d : Int, (0 ≤ d ∧ d ≤ 16) → vLen k (bl o) = lenD d (bl o) → (k = 3 ∨ k = 4 ∨ k = 15) ∧ d = 0 ∨ k = 5 ∧ d = 5 ∨ k = 12 ∧ d = 16 ∨ (k = 13 ∨ k = 2 ∨ k = 14) ∧ d = 4 →
      ∃ n, (∀ hE : H, callω fns 58 [bAV 5 o, .int .u8 k] hE = some (.tup [.int .i32 n, .bool (vLen k (bl o)).isSome], hE)) ∧ ∀ m, vLen k (bl o) = some m → n = m ∧ m < 2147483648 := by
    intro d hd hv hk
    obtain ⟨n, hn, h1, h2⟩ := lenD_ok (l := bl o) hd
    obtain ⟨r1, r2⟩ := num32_range (bl o)
    rw [hv]
    refine ⟨n, fun hE => ?_, h2⟩
    rw [← h1]
    refine run58 (Nat.le_of_ble_eq_true rfl) ?_
    generalize okL (bl o) = b at *
    rcases hk with ⟨rfl | rfl | rfl, rfl⟩ | ⟨rfl, rfl⟩ | ⟨rfl, rfl⟩ | ⟨rfl | rfl | rfl, rfl⟩ <;>
      (by_cases h0 : n < 0) <;> first
        | (have e : n = num32 (bl o) := by rw [hn, Int.add_zero, i32_small r1 r2]
           rw [e] at h0 ⊢; simp [hR, h0, exV])
        | (simp [hR, ← hn, h0, exV])
  have fixed : ∀ z : Nat, vLen k (bl o) = some z → z < 100 → (∀ hE : H, callω fns 58 [bAV 5 o, .int .u8 k] hE = some (.tup [.int .i32 z, .bool true], hE)) →
      ∃ n, (∀ hE : H, callω fns 58 [bAV 5 o, .int .u8 k] hE = some (.tup [.int .i32 n, .bool (vLen k (bl o)).isSome], hE)) ∧ ∀ m, vLen k (bl o) = some m → n = m ∧ m < 2147483648 := by
    intro z hv hz h
    rw [hv]
    exact ⟨z, h, fun m hm => by injection hm with hm; subst hm; exact ⟨rfl, by omega⟩⟩
  rcases kinds_cases k with (hk | hk) | rfl | hk
  · rcases hk with rfl | rfl | rfl | rfl | rfl | rfl | rfl | rfl
    · exact num 0 (by omega) rfl (by omega)
    · exact num 0 (by omega) rfl (by omega)
    · exact num 0 (by omega) rfl (by omega)
    · exact num 5 (by omega) rfl (by omega)
    · exact num 16 (by omega) rfl (by omega)
    · exact num 4 (by omega) rfl (by omega)
    · exact num 4 (by omega) rfl (by omega)
    · exact num 4 (by omega) rfl (by omega)
  · rcases hk with rfl | rfl | rfl | rfl | rfl | rfl | rfl | rfl | rfl | rfl | rfl | rfl
    · exact fixed 1 rfl (by omega) fun hE => run58 (Nat.le_of_ble_eq_true rfl) (by simp)
    · exact fixed 8 rfl (by omega) fun hE => run58 (Nat.le_of_ble_eq_true rfl) (by simp)
    · exact fixed 8 rfl (by omega) fun hE => run58 (Nat.le_of_ble_eq_true rfl) (by simp)
    · exact fixed 8 rfl (by omega) fun hE => run58 (Nat.le_of_ble_eq_true rfl) (by simp)
    · exact fixed 8 rfl (by omega) fun hE => run58 (Nat.le_of_ble_eq_true rfl) (by simp)
    · exact fixed 16 rfl (by omega) fun hE => run58 (Nat.le_of_ble_eq_true rfl) (by simp)
    · exact fixed 4 rfl (by omega) fun hE => run58 (Nat.le_of_ble_eq_true rfl) (by simp)
    · exact fixed 0 rfl (by omega) fun hE => run58 (Nat.le_of_ble_eq_true rfl) (by simp)
    · exact fixed 0 rfl (by omega) fun hE => run58 (Nat.le_of_ble_eq_true rfl) (by simp)
    · exact fixed 0 rfl (by omega) fun hE => run58 (Nat.le_of_ble_eq_true rfl) (by simp)
    · exact fixed 0 rfl (by omega) fun hE => run58 (Nat.le_of_ble_eq_true rfl) (by simp)
    · exact fixed 12 rfl (by omega) fun hE => run58 (Nat.le_of_ble_eq_true rfl) (by simp)
  · have hv : vLen 11 (bl o) = rxLen (bl o) := rfl
    rw [hv]
    have hI := c_IndexNul o
    unfold rxLen
    cases h1 : nul (bl o) with
    | none =>
      rw [h1] at hI
      refine ⟨0, fun hE => ?_, fun m hm => by cases hm⟩
      refine run58 (Nat.le_of_ble_eq_true rfl) ?_
      simp [hI]
    | some i =>
      rw [h1] at hI
      have hil := (nul_lt h1).1
      cases o with
      | none => simp [bl] at hil
      | some l =>
        simp only [bl] at h1 hil hl hI ⊢
        have hJ := c_IndexNul (some (l.drop (i + 1)))
        simp only [bl] at hJ
        have hs : ∀ h : H, slSl h 1 (bAV 5 (some l)) (some ((i : Int) + 1)) (some (l.length : Int)) = some (bAV 5 (some (l.drop (i + 1)))) := fun h => by
          rw [sl_b (by omega) (by omega) (by omega)]
          have e1 : ((i : Int) + 1).toNat = i + 1 := by omega
          rw [e1, Int.toNat_natCast, List.take_of_length_le (by rw [List.length_drop]; omega)]
        have w1 : IntKind.i64.wrap ((i : Int) + 1) = i + 1 := wrap_i64 (by omega) (by omega)
        have gi : ¬ ((i : Int) < 0) := by omega
        cases h2 : nul (l.drop (i + 1)) with
        | none =>
          rw [h2] at hJ
          refine ⟨0, fun hE => ?_, fun m hm => by simp [h2] at hm⟩
          refine run58 (Nat.le_of_ble_eq_true rfl) ?_
          simp [hI, w1, gi, hs, hJ, bl, h2]
        | some j =>
          rw [h2] at hJ
          have hjl := (nul_lt h2).1
          rw [List.length_drop] at hjl
          have gj : ¬ ((j : Int) < 0) := by omega
          have w2 : IntKind.i64.wrap ((i : Int) + 1 + j) = i + 1 + j := wrap_i64 (by omega) (by omega)
          have w3 : IntKind.i64.wrap ((i : Int) + 1 + j + 1) = i + 1 + j + 1 := wrap_i64 (by omega) (by omega)
          have w4 : IntKind.i32.wrap ((i : Int) + 1 + j + 1) = i + 1 + j + 1 := i32_small (by omega) (by omega)
          have ge : ¬ ((i : Int) + 1 + j + 1 < 0) := by omega
          refine ⟨(i : Int) + 1 + j + 1, fun hE => ?_, fun m hm => by simp [h2] at hm; omega⟩
          refine run58 (Nat.le_of_ble_eq_true rfl) ?_
          simp [hI, w1, w2, w3, w4, gi, gj, ge, hs, hJ, bl, h2]
  · obtain ⟨h1, h2, h3, h4, h5, h6, h7, h8, h9, h10, h11, h12, h13, h14, h15, h16, h17, h18, h19, h20, h21⟩ := hk
    have hv : vLen k (bl o) = none := by
      unfold vLen; simp [h1, h2, h3, h4, h5, h6, h7, h8, h9, h10, h11, h12, h13, h14, h15, h16, h17, h18, h19, h20, h21]
    rw [hv]
    refine ⟨0, fun hE => ?_, fun m hm => by cases hm⟩
    refine run58 (Nat.le_of_ble_eq_true rfl) ?_
    simp [h1, h2, h3, h4, h5, h6, h7, h8, h9, h10, h11, h12, h13, h14, h15, h16, h17, h18, h19, h20, h21]
end Go.Proofs.YtdnfnobgeddbfaaGreatDoor.Abs

/- Values and elements cut off any bytes. -/
namespace Go.Proofs.YtdnfnobgeddbfaaGreatDoor.Abs
set_option linter.all false
open Go.Proofs
set_option linter.unusedVariables false
set_option linter.unusedSimpArgs false
set_option maxRecDepth 100000
set_option maxHeartbeats 8000000

theorem nulD_cons (c : UInt8) (r : List UInt8) : (nul (c :: r)).getD (c :: r).length = if c = 0 then 0 else (nul r).getD r.length + 1 := by
  show (if c = 0 then some 0 else (nul r).map (· + 1)).getD _ = _
  split
  · rfl
  · cases nul r <;> rfl
theorem l_ReadElement {t : UInt8} : ∀ (rest pre : List UInt8) (st : St), st.s 0 = bAV 5 (some (t :: (pre ++ rest))) → st.s 6 = .int .i64 (pre.length + 1 : Nat) → (pre ++ rest).length < 2147483648 → ∀ Q : Ex × St → Prop,
    (∀ st' : St, st'.h = st.h → st'.s 0 = st.s 0 → st'.s 5 = st.s 5 → st'.s 6 = .int .i64 (pre.length + 1 + (nul rest).getD rest.length : Nat) → Q (.exit 0, st')) → LoopR fns lc40_0 st Q
  | [], pre, st, h0, h6, hl, Q, hA => by
    refine loopω_run fns ?_
    simp only [List.append_nil] at h0 hl
    have hlen : (bl (some (t :: pre))).length = pre.length + 1 := by simp [bl]
    have g : ¬ ((pre.length : Int) + 1 < (pre.length + 1 : Nat)) := by omega
    have g2 : ¬ ((pre.length : Int) + 1 < (pre.length : Int) + 1) := by omega
    simp only [Int.natCast_add, Int.natCast_one] at h6
    simp [h0, h6, bl, g2, g]
    refine hA _ ?_ ?_ ?_ ?_ <;> simp [h0, h6, bl, nul]
  | c :: rest, pre, st, h0, h6, hl, Q, hA => by
    refine loopω_run fns ?_
    have hlt : pre.length + 1 < (t :: (pre ++ c :: rest)).length := by simp
    have g : ((pre.length : Int) + 1 < (pre.length : Int) + ((rest.length : Int) + 1) + 1) := by omega
    have hget : (t :: (pre ++ c :: rest))[pre.length + 1] = c := by simp
    have hix := bAV_at (e := 5) hlt
    rw [hget] at hix
    simp only [Int.natCast_add, Int.natCast_one] at h6 hix
    by_cases hc : c = 0
    · have hc' : c.toNat = 0 := by rw [hc]; rfl
      simp [h0, h6, bl, g, hix, hc']
      refine hA _ ?_ ?_ ?_ ?_ <;> simp [h0, h6, nul, hc]
    · have hc' : ¬ c.toNat = 0 := fun e => hc (UInt8.toNat_inj.1 e)
      have w : IntKind.i64.wrap ((pre.length : Int) + 1 + 1) = pre.length + 1 + 1 := wrap_i64 (by omega) (by simp at hl; omega)
      simp [h0, h6, bl, g, hix, hc', w]
      refine l_ReadElement (t := t) rest (pre ++ [c]) _ ?_ ?_ ?_ Q ?_
      · simp [h0]
      · simp
      · simpa using hl
      · intro st' k1 k2 k3 k4
        refine hA st' ?_ ?_ ?_ ?_
        · simp [k1]
        · simp [k2, h0]
        · simp [k3]
        · rw [k4, nulD_cons, if_neg hc]; simp; omega

def eRes (l : List UInt8) : AV :=
  match eGet l with
  | some m => .tup [bAV 5 (some (l.take m)), bAV 5 (some (l.drop m)), .bool true]
  | none => .tup [bAV 5 none, bAV 5 (some l), .bool false]

theorem sl_to {hp : H} {e : Nat} {l : List UInt8} {m : Nat} (h : m ≤ l.length) : slSl hp 1 (bAV e (some l)) (some 0) (some (m : Int)) = some (bAV e (some (l.take m))) := by
  rw [sl_b (by omega) (by omega) (by omega)]; simp
theorem sl_from {hp : H} {e : Nat} {l : List UInt8} {m : Nat} (h : m ≤ l.length) : slSl hp 1 (bAV e (some l)) (some (m : Int)) (some (l.length : Int)) = some (bAV e (some (l.drop m))) := by
  rw [sl_b (by omega) (by omega) (by omega)]
  rw [Int.toNat_natCast, Int.toNat_natCast, List.take_of_length_le (by rw [List.length_drop]; omega)]

theorem c_ReadElement (l : List UInt8) (hl : l.length < 2147483648) : ∀ hE : H, callω fns 40 [bAV 5 (some l)] hE = some (eRes l, hE) := by
  intro hE
  have e0 : AV.slice .nil 0 1 [] = bAV 5 none := rfl
  refine run40 (Nat.le_of_ble_eq_true rfl) ?_
  cases l with
  | nil => simp [eRes, eGet, bl, e0]
  | cons t r =>
    have h1 : ¬ ((r.length : Int) + 1 < 1) := by omega
    have hix := bAV_at (e := 5) (l := t :: r) (k := 0) (by simp)
    simp only [List.getElem_cons_zero, Int.natCast_zero, Int.cast_ofNat_Int] at hix
    have hix0 : ixV 1 (bAV 5 (some (t :: r))) (.int .i64 0) = some (.eptr (.int .u8 (t.toNat : Int) :: byteCells ((t :: r).drop (0 + 1)))) := hix
    simp [bl, h1, hix0]
    refine l_ReadElement (t := t) r [] _ (by simp) (by simp) (by simp at hl ⊢; omega) _ fun st' k1 k2 k3 k4 => ?_
    simp at k2 k3 k4
    cases hn : nul r with
    | none =>
      rw [hn] at k4
      have g : (r.length : Int) + 1 ≤ 1 + (r.length : Int) := by omega
      simp [k2, k4, bl, g, eRes, eGet, hn, k1, e0]
    | some i =>
      rw [hn] at k4
      have hil := (nul_lt hn).1
      have g : ¬ ((r.length : Int) + 1 ≤ 1 + (i : Int)) := by omega
      have w1 : IntKind.i64.wrap (1 + (i : Int) + 1) = (i + 2 : Nat) := by rw [wrap_i64 (by omega) (by simp at hl; omega)]; omega
      have s1 : ∀ hp : H, slSl hp 1 (bAV 5 (some (t :: r))) (some ((i + 2 : Nat) : Int)) (some ((r.length : Int) + 1)) = some (bAV 5 (some (r.drop (i + 1)))) := fun hp => by
        have := sl_from (hp := hp) (e := 5) (l := t :: r) (m := i + 2) (by simp; omega)
        simpa using this
      obtain ⟨n, hV, hV2⟩ := c_vLen t.toNat (some (r.drop (i + 1))) (by simp [bl] at hl ⊢; omega)
      simp only [bl] at hV hV2
      cases hv : vLen (t.toNat : Int) (r.drop (i + 1)) with
      | none =>
        rw [hv] at hV
        simp only [Int.natCast_add, Int.cast_ofNat_Int] at s1 w1
        simp [k2, k3, k4, bl, g, w1, s1, hV, eRes, eGet, hn, hv, k1, e0, ex2_0, ex2_1]
      | some m =>
        obtain ⟨rfl, hm⟩ := hV2 m hv
        rw [hv] at hV
        have w2 : IntKind.i64.wrap (m : Int) = m := wrap_i64 (by omega) (by omega)
        have w3 : IntKind.i64.wrap ((i : Int) + 2 + m) = (i + 2 + m : Nat) := by rw [wrap_i64 (by omega) (by simp at hl; omega)]; omega
        by_cases hle : i + 2 + m ≤ r.length + 1
        · have g2 : ¬ ((r.length : Int) + 1 < ((i + 2 + m : Nat) : Int)) := by omega
          have s2 : ∀ hp : H, slSl hp 1 (bAV 5 (some (t :: r))) (some 0) (some ((i + 2 + m : Nat) : Int)) = some (bAV 5 (some ((t :: r).take (i + 2 + m)))) := fun hp => sl_to (by simp; omega)
          have s3 : ∀ hp : H, slSl hp 1 (bAV 5 (some (t :: r))) (some ((i + 2 + m : Nat) : Int)) (some ((r.length : Int) + 1)) = some (bAV 5 (some ((t :: r).drop (i + 2 + m)))) := fun hp => by
            have := sl_from (hp := hp) (e := 5) (l := t :: r) (m := i + 2 + m) (by simp; omega)
            simpa only [List.length_cons, Int.natCast_add, Int.natCast_one] using this
          have hr : eRes (t :: r) = .tup [bAV 5 (some ((t :: r).take (i + 2 + m))), bAV 5 (some ((t :: r).drop (i + 2 + m))), .bool true] := by
            simp [eRes, eGet, hn, hv, hle]
          rw [hr]
          generalize (t :: r).take (i + 2 + m) = X at *
          generalize (t :: r).drop (i + 2 + m) = Y at *
          simp only [Int.natCast_add, Int.cast_ofNat_Int] at s1 w1 s2 s3 w3 g2
          simp [k2, k3, k4, bl, g, w1, w2, w3, s1, s2, s3, g2, hV, k1, ex2_0, ex2_1]
        · have g2 : ((r.length : Int) + 1 < ((i + 2 + m : Nat) : Int)) := by omega
          have hr : eRes (t :: r) = .tup [bAV 5 none, bAV 5 (some (t :: r)), .bool false] := by
            simp [eRes, eGet, hn, hv, hle]
          rw [hr]
          simp only [Int.natCast_add, Int.cast_ofNat_Int] at s1 w1 w3 g2
          simp [k2, k3, k4, bl, g, w1, w2, w3, s1, g2, hV, k1, e0, ex2_0, ex2_1]

def vData (k : Int) (o : Option (List UInt8)) : Option (List UInt8) := match vGet k (bl o) with | some n => o.map (·.take n) | none => none
def vRest (k : Int) (o : Option (List UInt8)) : Option (List UInt8) := match vGet k (bl o) with | some n => o.map (·.drop n) | none => o
theorem c_readVal (k : Int) (o : Option (List UInt8)) (hl : (bl o).length < 2147483648) :
    ∀ hE : H, callω fns 72 [bAV 5 o, .int .u8 k] hE = some (.tup [bAV 5 (vData k o), bAV 5 (vRest k o), .bool (vGet k (bl o)).isSome], hE) := by
  intro hE
  obtain ⟨n, hV, hV2⟩ := c_vLen k o hl
  have e0 : AV.slice .nil 0 1 [] = bAV 5 none := rfl
  unfold vData vRest vGet
  cases hv : vLen k (bl o) with
  | none =>
    rw [hv] at hV
    refine run72 (Nat.le_of_ble_eq_true rfl) ?_
    simp [hV, hv, ex2_0, ex2_1, e0]
  | some m =>
    obtain ⟨rfl, hm⟩ := hV2 m hv
    rw [hv] at hV
    have w : IntKind.i64.wrap (m : Int) = m := wrap_i64 (by omega) (by omega)
    by_cases hle : m ≤ (bl o).length
    · have g : ¬ (((bl o).length : Int) < m) := by omega
      cases o with
      | none =>
        simp only [bl, List.length_nil, Nat.le_zero] at hle
        subst hle
        have sn : ∀ hp : H, slSl hp 1 (bAV 5 none) (some 0) (some 0) = some (bAV 5 none) := fun hp => by simp [slSl, bAV]
        refine run72 (Nat.le_of_ble_eq_true rfl) ?_
        have w0 : IntKind.i64.wrap 0 = 0 := rfl
        simp [hV, hv, ex2_0, ex2_1, bl, sn, w0]
      | some l =>
        simp only [bl] at hle g
        have s1 : ∀ hp : H, slSl hp 1 (bAV 5 (some l)) (some 0) (some (m : Int)) = some (bAV 5 (some (l.take m))) := fun hp => sl_to hle
        have s2 : ∀ hp : H, slSl hp 1 (bAV 5 (some l)) (some (m : Int)) (some (l.length : Int)) = some (bAV 5 (some (l.drop m))) := fun hp => sl_from hle
        refine run72 (Nat.le_of_ble_eq_true rfl) ?_
        simp [hV, hv, w, g, s1, s2, ex2_0, ex2_1, bl, hle]
    · have g : (((bl o).length : Int) < m) := by omega
      refine run72 (Nat.le_of_ble_eq_true rfl) ?_
      simp [hV, hv, w, g, ex2_0, ex2_1, hle, e0]
theorem c_NewIBE (a b : Option (List UInt8)) : ∀ hE : H, callω fns 39 [bAV 5 a, bAV 5 b] hE = some (.agg [bAV 5 a, bAV 5 b], hE) := by
  intro hE
  refine run39 (Nat.le_of_ble_eq_true rfl) ?_
  simp
def xFew (a b : Option (List UInt8)) : AV := .iface 93 (.agg [bAV 5 a, bAV 5 b])
theorem mk_few (a b : Option (List UInt8)) : mkI 93 (.agg [bAV 5 a, bAV 5 b]) = some (xFew a b) := by simp [mkI, xFew]
@[simp] theorem xFew_gv (a b) : gvV (xFew a b) = xFew a b := rfl
@[simp] theorem xFew_hd (a b) : hdV (xFew a b) = xFew a b := rfl
@[simp] theorem xFew_lf (a b) : lfV (xFew a b) = xFew a b := rfl
@[simp] theorem xFew_left (a b) : (xFew a b).cls .left = xFew a b := rfl
@[simp] theorem xFew_cpV (m : Mode) (a b) : cpV m (xFew a b) = xFew a b := by cases m <;> rfl
@[simp] theorem xFew_cpS (m : Mode) (a b) : cpS m (xFew a b) = xFew a b := by cases m <;> rfl
@[simp] theorem xFew_plain (a b) : (xFew a b).plain = true := rfl
@[simp] theorem xFew_cells (a b) : (xFew a b).cells = [xFew a b] := rfl
@[simp] theorem xFew_several (a b) : (xFew a b).several = false := rfl
@[simp] theorem xFew_kill (t : Nat) (a b) : (xFew a b).kill t = xFew a b := rfl
@[simp] theorem xFew_takeU {st : St} {n : Nat} (a b) : takeU (xFew a b) st n = (xFew a b, st.set n (xFew a b)) := rfl
@[simp high] theorem xFew_eqnil (a b) : aEq 5 true (xFew a b) .nilI = some false := rfl
@[simp high] theorem xFew_neqnil (a b) : aBin .neq 5 true (xFew a b) .nilI = some (.bool true) := rfl
@[simp high] theorem xFew_eqlnil (a b) : aBin .eql 5 true (xFew a b) .nilI = some (.bool false) := rfl

def xVal (k : Int) (o : Option (List UInt8)) : AV := if (vGet k (bl o)).isSome then .nilI else xFew o o
theorem c_ValValidate (k : Int) (o : Option (List UInt8)) (hl : (bl o).length < 2147483648) :
    ∀ hE : H, callω fns 60 [.agg [.int .u8 k, bAV 5 o]] hE = some (xVal k o, hE) := by
  intro hE
  have h := c_readVal k o hl
  have e := c_NewIBE o o
  unfold xVal
  generalize vData k o = X at *
  generalize vRest k o = Y at *
  generalize (vGet k (bl o)).isSome = b at *
  refine run60 (Nat.le_of_ble_eq_true rfl) ?_
  cases b
  · simp [h, ex3_0, ex3_1, ex3_2, e, mk_few]
  · simp [h, ex3_0, ex3_1, ex3_2]
theorem c_ReadVal (k : Int) (o : Option (List UInt8)) (hl : (bl o).length < 2147483648) :
    ∀ hE : H, callω fns 70 [bAV 5 o, .int .u8 k] hE =
      some (if (vGet k (bl o)).isSome then .tup [.agg [.int .u8 k, bAV 5 (vData k o)], bAV 5 (vRest k o), .bool true] else .tup [.agg [.int .u8 0, bAV 5 none], bAV 5 o, .bool false], hE) := by
  intro hE
  have h := c_readVal k o hl
  have e0 : AV.slice .nil 0 1 [] = bAV 5 none := rfl
  generalize vData k o = X at *
  generalize vRest k o = Y at *
  generalize (vGet k (bl o)).isSome = b at *
  refine run70 (Nat.le_of_ble_eq_true rfl) ?_
  cases b
  · simp [h, ex3_0, ex3_1, ex3_2, e0]
  · simp [h, ex3_0, ex3_1, ex3_2]
end Go.Proofs.YtdnfnobgeddbfaaGreatDoor.Abs

/- Elements of any bytes: name, value, whether valid; errors and their codes. -/
namespace Go.Proofs.YtdnfnobgeddbfaaGreatDoor.Abs
set_option linter.all false
open Go.Proofs
set_option linter.unusedVariables false
set_option linter.unusedSimpArgs false
set_option maxRecDepth 100000
set_option maxHeartbeats 8000000

def sType : List UInt8 := [101, 108, 101, 109, 101, 110, 116, 32, 105, 115, 32, 109, 105, 115, 115, 105, 110, 103, 32, 116, 121, 112, 101]
def sKey : List UInt8 := [101, 108, 101, 109, 101, 110, 116, 32, 105, 115, 32, 109, 105, 115, 115, 105, 110, 103, 32, 107, 101, 121]
def xMal (l : List UInt8) : AV := .iface 98 (.str (if l = [] then sType else sKey))
theorem sl_tail {hp : H} {e : Nat} {t : UInt8} {r : List UInt8} : slSl hp 1 (bAV e (some (t :: r))) (some 1) (some ((r.length : Int) + 1)) = some (bAV e (some r)) := by
  have := sl_from (hp := hp) (e := e) (l := t :: r) (m := 1) (by simp)
  simpa using this
theorem ix_head {e : Nat} {t : UInt8} {r : List UInt8} : ixV 1 (bAV e (some (t :: r))) (.int .i64 0) = some (.eptr (.int .u8 (t.toNat : Int) :: byteCells r)) := by
  have := bAV_at (e := e) (l := t :: r) (k := 0) (by simp)
  simpa using this
theorem sl_mid {hp : H} {e : Nat} {t : UInt8} {r : List UInt8} {i : Nat} (h : i ≤ r.length) : slSl hp 1 (bAV e (some (t :: r))) (some 1) (some ((i : Int) + 1)) = some (bAV e (some (r.take i))) := by
  rw [sl_b (by omega) (by omega) (by simp; omega)]
  have e1 : ((i : Int) + 1).toNat = i + 1 := by omega
  rw [e1]; simp
theorem sl_past {hp : H} {e : Nat} {t : UInt8} {r : List UInt8} {i : Nat} (h : i < r.length) : slSl hp 1 (bAV e (some (t :: r))) (some ((i : Int) + 2)) (some ((r.length : Int) + 1)) = some (bAV e (some (r.drop (i + 1)))) := by
  have := sl_from (hp := hp) (e := e) (l := t :: r) (m := i + 2) (by simp; omega)
  simpa using this

theorem c_KeyBytesErr (l : List UInt8) (hl : l.length < 2147483648) : ∀ hE : H, callω fns 66 [bAV 5 (some l)] hE =
    some (match eParts l with | some (_, nm, _) => .tup [bAV 5 (some nm), .nilI] | none => .tup [bAV 5 none, xMal l], hE) := by
  intro hE
  have e0 : AV.slice .nil 0 1 [] = bAV 5 none := rfl
  refine run66 (Nat.le_of_ble_eq_true rfl) ?_
  cases l with
  | nil => simp [bl, eParts, mkI, xMal, sType, e0]
  | cons t r =>
    have g : ¬ ((r.length : Int) + 1 = 0) := by omega
    have hI := c_IndexNul (some r)
    simp only [bl] at hI
    cases hn : nul r with
    | none =>
      rw [hn] at hI
      simp [bl, g, sl_tail, hI, eParts, hn, mkI, xMal, sKey, e0]
    | some i =>
      rw [hn] at hI
      have hil := (nul_lt hn).1
      have g2 : ¬ ((i : Int) = -1) := by omega
      have w : IntKind.i64.wrap ((i : Int) + 1) = i + 1 := wrap_i64 (by omega) (by simp at hl; omega)
      have s := fun hp => sl_mid (hp := hp) (e := 5) (t := t) (r := r) (i := i) (by omega)
      simp [bl, g, sl_tail, hI, eParts, hn, g2, w, s]
theorem c_KeyErr (l : List UInt8) (hl : l.length < 2147483648) : ∀ hE : H, callω fns 69 [bAV 5 (some l)] hE =
    some (match eParts l with | some (_, nm, _) => .tup [.str nm, .nilI] | none => .tup [.str [], xMal l], hE) := by
  intro hE
  have h := c_KeyBytesErr l hl
  refine run69 (Nat.le_of_ble_eq_true rfl) ?_
  cases hp : eParts l with
  | none => rw [hp] at h; simp [h, ex2_0, ex2_1, xMal, bl]
  | some q => obtain ⟨k, nm, d⟩ := q; rw [hp] at h; simp [h, ex2_0, ex2_1, bl]
theorem c_KeyBytes (l : List UInt8) (hl : l.length < 2147483648) : ∀ hE : H, callω fns 51 [bAV 5 (some l)] hE =
    some (match eParts l with | some (_, nm, _) => bAV 5 (some nm) | none => bAV 5 none, hE) := by
  intro hE
  have h := c_KeyBytesErr l hl
  refine run51 (Nat.le_of_ble_eq_true rfl) ?_
  cases hp : eParts l with
  | none => rw [hp] at h; simp [h, ex2_0, ex2_1, xMal, bl]
  | some q => obtain ⟨k, nm, d⟩ := q; rw [hp] at h; simp [h, ex2_0, ex2_1, bl]

theorem c_ElemValidate (l : List UInt8) (hl : l.length < 2147483648) : ∀ hE : H, callω fns 41 [bAV 5 (some l)] hE =
    some (match eParts l with | some (k, _, d) => xVal k.toNat (some d) | none => xMal l, hE) := by
  intro hE
  refine run41 (Nat.le_of_ble_eq_true rfl) ?_
  cases l with
  | nil => simp [bl, eParts, mkI, xMal, sType]
  | cons t r =>
    have g : ¬ ((r.length : Int) + 1 < 1) := by omega
    have hI := c_IndexNul (some r)
    simp only [bl] at hI
    cases hn : nul r with
    | none =>
      rw [hn] at hI
      simp [bl, g, sl_tail, hI, eParts, hn, mkI, xMal, sKey]
    | some i =>
      rw [hn] at hI
      have hil := (nul_lt hn).1
      have g2 : ¬ ((i : Int) = -1) := by omega
      have w : IntKind.i64.wrap ((i : Int) + 2) = i + 2 := wrap_i64 (by omega) (by simp at hl; omega)
      have s := fun hp => sl_past (hp := hp) (e := 5) (t := t) (r := r) (i := i) hil
      have hv := c_ValValidate t.toNat (some (r.drop (i + 1))) (by simp [bl] at hl ⊢; omega)
      have hx : xVal (t.toNat : Int) (some (r.drop (i + 1))) = .nilI ∨ xVal (t.toNat : Int) (some (r.drop (i + 1))) = xFew (some (r.drop (i + 1))) (some (r.drop (i + 1))) := by unfold xVal; split; { exact .inl rfl }; { exact .inr rfl }
      rcases hx with hx | hx <;> simp [bl, g, sl_tail, hI, eParts, hn, g2, w, s, ix_head, hv, hx, hn]

def eVal (l : List UInt8) : AV :=
  match eParts l with
  | some (k, _, d) => if (vGet k.toNat d).isSome then .agg [.int .u8 k.toNat, bAV 5 (vData k.toNat (some d))] else .agg [.int .u8 0, bAV 5 none]
  | none => .agg [.int .u8 0, bAV 5 none]
def eValErr (l : List UInt8) : AV :=
  match eParts l with
  | some (k, _, d) => if (vGet k.toNat d).isSome then .nilI else xFew (some l) (some d)
  | none => xMal l
theorem c_ValueErr (l : List UInt8) (hl : l.length < 2147483648) : ∀ hE : H, callω fns 56 [bAV 5 (some l)] hE = some (.tup [eVal l, eValErr l], hE) := by
  intro hE
  have e0 : AV.slice .nil 0 1 [] = bAV 5 none := rfl
  refine run56 (Nat.le_of_ble_eq_true rfl) ?_
  cases l with
  | nil => simp [bl, eParts, mkI, xMal, sType, eVal, eValErr, e0, ldV, stV, St.at, St.setAt, ldO, stO, splice]
  | cons t r =>
    have g : ¬ ((r.length : Int) + 1 = 0) := by omega
    have hI := c_IndexNul (some r)
    simp only [bl] at hI
    cases hn : nul r with
    | none =>
      rw [hn] at hI
      simp [bl, g, sl_tail, hI, eParts, hn, mkI, xMal, sKey, eVal, eValErr, e0]
    | some i =>
      rw [hn] at hI
      have hil := (nul_lt hn).1
      have g2 : ¬ ((i : Int) = -1) := by omega
      have w : IntKind.i64.wrap ((i : Int) + 2) = i + 2 := wrap_i64 (by omega) (by simp at hl; omega)
      have s := fun hp => sl_past (hp := hp) (e := 5) (t := t) (r := r) (i := i) hil
      have hv := c_ReadVal t.toNat (some (r.drop (i + 1))) (by simp [bl] at hl ⊢; omega)
      simp only [bl] at hv
      have hi := c_NewIBE (some (t :: r)) (some (r.drop (i + 1)))
      cases hg : vGet (t.toNat : Int) (r.drop (i + 1)) with
      | none =>
        simp only [bl, hg, Option.isSome_none, Bool.false_eq_true, if_false] at hv
        simp [bl, g, sl_tail, hI, hn, g2, w, s, ix_head, hv, hi, mk_few, eVal, eValErr, eParts, hg, ex3_0, ex3_1, ex3_2, e0]
      | some m =>
        simp only [bl, hg, Option.isSome_some, if_true] at hv
        generalize hX : vData (t.toNat : Int) (some (r.drop (i + 1))) = X at *
        generalize vRest (t.toNat : Int) (some (r.drop (i + 1))) = Y at *
        simp [bl, g, sl_tail, hI, hn, g2, w, s, ix_head, hv, eVal, eValErr, eParts, hg, hX, ex3_0, ex3_1, ex3_2, e0]
theorem c_ElemValue (l : List UInt8) (hl : l.length < 2147483648) : ∀ hE : H, callω fns 52 [bAV 5 (some l)] hE = some (eVal l, hE) := by
  intro hE
  have e0 : AV.slice .nil 0 1 [] = bAV 5 none := rfl
  have h := c_ValueErr l hl
  refine run52 (Nat.le_of_ble_eq_true rfl) ?_
  have hv : ∃ k o, eVal l = .agg [.int .u8 k, bAV 5 o] := by
    unfold eVal; split
    · split; { exact ⟨_, _, rfl⟩ }; { exact ⟨_, _, rfl⟩ }
    · exact ⟨_, _, rfl⟩
  obtain ⟨k, o, hv⟩ := hv
  have hx : eValErr l = .nilI ∨ eValErr l = xMal l ∨ ∃ a b, eValErr l = xFew a b := by
    unfold eValErr; split
    · split; { exact .inl rfl }; { exact .inr (.inr ⟨_, _, rfl⟩) }
    · exact .inr (.inl rfl)
  rw [hv] at h ⊢
  rcases hx with hx | hx | ⟨a, b, hx⟩ <;> (rw [hx] at h; simp [h, ex2_0, ex2_1, xMal])
end Go.Proofs.YtdnfnobgeddbfaaGreatDoor.Abs

/- Documents of any bytes: their elements and values, the element with a number, whether they are valid; codes of errors. -/
namespace Go.Proofs.YtdnfnobgeddbfaaGreatDoor.Abs
set_option linter.all false
open Go.Proofs
set_option linter.unusedVariables false
set_option linter.unusedSimpArgs false
set_option maxRecDepth 100000
set_option maxHeartbeats 8000000

theorem c_ElemV {l : List UInt8} {m : Nat} (h : eGet l = some m) (hl : l.length < 2147483648) : ∀ hE : H, callω fns 41 [bAV 5 (some (l.take m))] hE = some (if eOk (l.take m) then .nilI else xFew (eDat (l.take m)) (eDat (l.take m)), hE) := by
  have hc := c_ElemValidate (l.take m) (by simp; omega)
  obtain ⟨t, r, i, n, rfl, hn, hv, rfl, hle, hp⟩ := eParts_take h
  intro hE
  rw [hc]
  cases hb : (vGet (t.toNat : Int) ((r.drop (i + 1)).take n)).isSome <;> simp only [hp, xVal, bl, hb, eOk, eDat, if_true, if_false, Bool.false_eq_true]
theorem c_ElemVal {l : List UInt8} {m : Nat} (h : eGet l = some m) (hl : l.length < 2147483648) :
    ∃ k o, (eVal (l.take m) = .agg [.int .u8 k, bAV 5 o] ∧ (bl o).length < 2147483648 ∧ 0 ≤ k ∧ k < 256 ∧ (vGet k (bl o)).isSome = eOk (l.take m)) ∧
      (eOk (l.take m) = true → ∃ t nm d n, eParts (l.take m) = some (t, nm, d) ∧ k = t.toNat ∧ vGet t.toNat d = some n ∧ o = some (d.take n)) := by
  obtain ⟨t, r, i, n, rfl, hn, hv, rfl, hle, hp⟩ := eParts_take h
  have ht := t.toNat_lt
  unfold eVal eOk
  simp only [hp]
  cases hg : vGet (t.toNat : Int) ((r.drop (i + 1)).take n) with
  | none => exact ⟨0, none, ⟨rfl, by simp [bl], by omega, by omega, rfl⟩, fun h => by cases h⟩
  | some q =>
    refine ⟨t.toNat, some (((r.drop (i + 1)).take n).take q), ⟨?_, ?_, by omega, by omega, ?_⟩, fun _ => ⟨t, _, _, q, rfl, rfl, hg, rfl⟩⟩
    · simp [vData, bl, hg]
    · simp [bl] at hl ⊢; omega
    · simp only [bl, Option.isSome_some]
      have hq := vGet_cut hv (by rw [List.length_drop]; omega) hg
      subst hq
      rw [List.take_take, Nat.min_self, hg]
      rfl

theorem RS.app_nil (b : RS) : b.app [] = b := by cases b <;> simp [RS.app]
inductive XC : AV → Int → Prop
  | nil : XC .nilI 0
  | few (a b) : XC (xFew a b) 1
theorem c_code {v : AV} {c : Int} (h : XC v c) : ∀ hE : H, callω fns 23 [v] hE = some (.int .i64 c, hE) := by
  intro hE
  cases h with
  | nil =>
    refine run23 (Nat.le_of_ble_eq_true rfl) ?_
    simp
  | few a b =>
    refine run23 (Nat.le_of_ble_eq_true rfl) ?_
    simp [xFew, taOk, exV]

theorem l_Elements {o : Option (List UInt8)} : ∀ (f : Nat) (n : Int) (l : List UInt8) (pre : RS) (st : St), st.s 0 = bAV 5 o → st.s 4 = .int .i32 n → st.s 5 = bAV 5 (some l) → st.s 8 = pre.av 56 1 →
    l.length < f → l.length < 2147483648 → -2147483648 ≤ n → n < 2147483648 → pre.l.length + l.length < 2147483648 → ∀ Q : Ex × St → Prop,
    ((elemsR f n l).2 = true → ∀ st' : St, st'.h = st.h → st'.s 8 = (pre.app (rowsC 5 (elemsR f n l).1)).av 56 1 → Q (.exit 0, st')) →
    ((elemsR f n l).2 = false → ∀ st' : St, st'.h = st.h → st'.s 2 = (pre.app (rowsC 5 (elemsR f n l).1)).av 56 1 → st'.s 3 = xFew (elemsE eDat o f n l).1 (elemsE eDat o f n l).2 → Q (.ret, st')) → LoopR fns lc22_0 st Q
  | 0, n, l, pre, st, h0, h4, h5, h8, hf, hl, hn0, hn1, hp, Q, hA, hB => by omega
  | f + 1, n, l, pre, st, h0, h4, h5, h8, hf, hl, hn0, hn1, hp, Q, hA, hB => by
    refine loopω_run fns ?_
    by_cases hn : n ≤ 1
    · have g : ¬ (1 < n) := by omega
      simp only [elemsR, hn, if_true] at hA
      simp [h4, g]
      refine hA (by simp) _ ?_ ?_ <;> simp [h8, RS.app_nil]
    · have g : 1 < n := by omega
      have hr := c_ReadElement l hl
      cases he : eGet l with
      | none =>
        have e : eRes l = .tup [bAV 5 none, bAV 5 (some l), .bool false] := by simp [eRes, he]
        rw [e] at hr
        have hi := c_NewIBE o (some l)
        simp only [elemsR, elemsE, hn, if_false, he] at hB
        have w0 : IntKind.i32.wrap 0 = 0 := rfl
        have w1 : IntKind.i32.wrap n = n := i32_small hn0 hn1
        simp [xFew, h0, h4, h5, h8, g, hr, hi, mk_few, ex3_0, ex3_1, ex3_2, bl, w0, w1]
        refine hB (by simp) _ ?_ ?_ ?_ <;> simp [RS.app_nil, xFew]
      | some m =>
        have hm := eGet_le he
        have e : eRes l = .tup [bAV 5 (some (l.take m)), bAV 5 (some (l.drop m)), .bool true] := by simp [eRes, he]
        rw [e] at hr
        have hv := c_ElemV he hl
        have hX : (l.take m).length = m := by simp; omega
        have hY : (l.drop m).length = l.length - m := by simp
        have w0 : IntKind.i32.wrap (m : Int) = m := i32_small (by omega) (by omega)
        have w1 : IntKind.i32.wrap (n - m) = n - m := i32_small (by omega) (by omega)
        simp only [elemsR, elemsE, hn, if_false, he] at hA hB
        cases hk : eOk (l.take m) with
        | false =>
          simp only [hk, Bool.false_eq_true, if_false, xFew] at hv hB
          generalize l.take m = X at *
          generalize eDat X = d at *
          simp [xFew, h0, h4, h5, h8, g, hr, hv, ex3_0, ex3_1, ex3_2, bl, hX, w0, w1]
          refine hB (by simp) _ ?_ ?_ ?_ <;> simp [RS.app_nil, xFew]
        | true =>
          simp only [hk, if_true] at hv hA hB
          generalize l.take m = X at *
          have ha : ∀ hp : H, apV hp 56 1 24 false (pre.av 56 1) (.slice (.own true) 56 1 [bAV 5 (some X)]) = some ((pre.app [bAV 5 (some X)]).av 56 1) := fun hp =>
            RS.apV (by simp only [List.length_singleton, Nat.div_one, tooLong]; omega) (by simp only [List.length_singleton, tooLong]; omega)
          simp [xFew, h0, h4, h5, h8, g, hr, hv, ex3_0, ex3_1, ex3_2, bl, hX, w0, w1, ha]
          refine l_Elements (o := o) f (n - m) (l.drop m) (pre.app [bAV 5 (some X)]) _ ?_ ?_ ?_ ?_ ?_ ?_ (by omega) (by omega) ?_ Q (fun hb st' k1 k2 => hA hb st' ?_ ?_) (fun hb st' k1 k2 k3 => hB hb st' ?_ ?_ ?_)
          · simp [h0]
          · simp
          · simp
          · simp
          · omega
          · omega
          · rw [RS.l_app]; simp only [List.length_append, List.length_singleton]; omega
          · rw [k1]
          · rw [k2, RS.app_app]; rfl
          · rw [k1]
          · rw [k2, RS.app_app]; rfl
          · exact k3

theorem rest4_some {l : List UInt8} (h : 4 ≤ l.length) : rest4 (some l) = some (l.drop 4) := by
  match l, h with
  | _ :: _ :: _ :: _ :: r, _ => rfl
def dR (l : List UInt8) : List (List UInt8) × Bool := elemsR (l.length + 1) (num32 l - 4) (l.drop 4)
def dE (inv : List UInt8 → Option (List UInt8)) (l : List UInt8) : Option (List UInt8) × Option (List UInt8) := elemsE inv (some l) (l.length + 1) (num32 l - 4) (l.drop 4)
theorem c_Elements (l : List UInt8) (hl : l.length < 2147483648) : ∀ hE : H, callω fns 22 [bAV 5 (some l)] hE =
    some (if okL l then .tup [(RS.mk (rowsC 5 (dR l).1)).av 56 1, if (dR l).2 then .nilI else xFew (dE eDat l).1 (dE eDat l).2] else .tup [.slice .nil 0 1 [], xFew (some l) (rest4 (some l))], hE) := by
  intro hE
  have hR := c_RLen (some l)
  simp only [bl] at hR
  by_cases hk : okL l = true
  case neg =>
    simp only [Bool.not_eq_true] at hk
    have hi := c_NewIBE (some l) (rest4 (some l))
    rw [hk] at hR
    generalize rest4 (some l) = R at *
    refine run22 (Nat.le_of_ble_eq_true rfl) ?_
    simp [hR, hk, hi, xFew, mkI, ex3_0, ex3_1, ex3_2]
  case pos =>
    obtain ⟨h4, h0⟩ := okL_le hk
    rw [hk, rest4_some h4] at hR
    have hr := num32_range l
    have w : IntKind.i32.wrap (num32 l - 4) = num32 l - 4 := i32_small (by omega) (by omega)
    have hd : (l.drop 4).length = l.length - 4 := by simp
    rw [if_pos hk]
    unfold dR dE
    generalize hN : num32 l = N at *
    generalize hL : l.drop 4 = L at *
    refine run22 (Nat.le_of_ble_eq_true rfl) ?_
    simp [hR, w, ex3_0, ex3_1, ex3_2]
    refine l_Elements (o := some l) (l.length + 1) (N - 4) L RS.nil _ ?_ ?_ ?_ ?_ (by omega) (by omega) (by omega) (by omega) ?_ _ (fun hb st' k1 k2 => ?_) (fun hb st' k1 k2 k3 => ?_)
    · simp
    · simp
    · simp
    · simp [RS.av]
    · simp [RS.l]; omega
    · simp [k1, k2, hb, RS.nil_app]
    · simp only [xFew] at k3
      simp [k1, k2, k3, hb, RS.nil_app, xFew]
end Go.Proofs.YtdnfnobgeddbfaaGreatDoor.Abs
