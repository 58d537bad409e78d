/- EB1, EB2 -/
import Derived.Test.YtcodfehgnjplcaaGreatDoorERdLen
import Derived.Test.YtcodfehgnjplcaaGreatDoorTR7
/- Lengths, values and elements of any bytes whatever. -/
namespace Go.Proofs.YtcodfehgnjplcaaGreatDoor.Abs
set_option linter.all false
open Go.Proofs
set_option linter.unusedVariables false
set_option linter.unusedSimpArgs false
set_option maxRecDepth 100000
set_option maxHeartbeats 8000000

theorem i32_small {n : Int} (h0 : -2147483648 ≤ n) (h1 : n < 2147483648) : IntKind.i32.wrap n = n := by simp [IntKind.wrap, IntKind.signed, IntKind.bits]; omega
theorem ibV_b {h : H} {e : Nat} {o : Option (List UInt8)} {c : Int} : ibV h (bAV e o) (.int .u8 c) = some (.int .i64 (Go.Lib.indexByte (bl o) (UInt8.ofNat c.toNat))) := by
  have h1 : (bAV e o).isOwn = false := by cases o <;> rfl
  simp [ibV, h1]
theorem c_IndexByte (o : Option (List UInt8)) (c : Int) : ∀ hE : H, callω fns 220 [bAV 5 o, .int .u8 c] hE = some (.int .i64 (Go.Lib.indexByte (bl o) (UInt8.ofNat c.toNat)), hE) := by
  intro hE
  refine run220 (Nat.le_of_ble_eq_true rfl) ?_
  simp [ibV_b]
theorem c_IndexNul (o : Option (List UInt8)) : ∀ hE : H, callω fns 220 [bAV 5 o, .int .u8 0] hE = some (.int .i64 (match nul (bl o) with | some i => (i : Int) | none => -1), hE) := by
  have h := c_IndexByte o 0
  have z0 : UInt8.ofNat (0 : Int).toNat = 0 := rfl
  rw [z0, indexByte_nul] at h
  exact h
def rest4 : Option (List UInt8) → Option (List UInt8)
  | some (_ :: _ :: _ :: _ :: r) => some r
  | o => o
def okL (l : List UInt8) : Bool := decide (4 ≤ l.length) && decide (0 ≤ num32 l)
theorem c_RLen (o : Option (List UInt8)) : ∀ hE : H, callω fns 54 [bAV 5 o] hE = some (.tup [.int .i32 (num32 (bl o)), bAV 5 (rest4 o), .bool (okL (bl o))], hE) := by
  intro hE
  by_cases h : (bl o).length < 4
  · have e1 : rest4 o = o := by
      cases o with
      | none => rfl
      | some l =>
        match l, h with
        | [], _ => rfl
        | [_], _ => rfl
        | [_, _], _ => rfl
        | [_, _, _], _ => rfl
        | _ :: _ :: _ :: _ :: r, h => simp [bl] at h; omega
    have e2 : okL (bl o) = false := by unfold okL; have : ¬ 4 ≤ (bl o).length := by omega
                                       simp [this]
    rw [num32_short h, e1, e2]
    exact c_ReadLength_short o h hE
  · match o, h with
    | none, h => simp [bl] at h
    | some [], h => simp [bl] at h
    | some [_], h => simp [bl] at h
    | some [_, _], h => simp [bl] at h
    | some [_, _, _], h => simp [bl] at h
    | some (a :: b :: c :: d :: r), _ =>
      have := c_ReadLength a b c d r hE
      rw [this]
      have hlen : 4 ≤ (bl (some (a :: b :: c :: d :: r))).length := by simp [bl]
      have e : okL (bl (some (a :: b :: c :: d :: r))) = decide (0 ≤ rd32 a b c d) := by unfold okL; simp only [hlen, decide_true, Bool.true_and]; rfl
      rw [e]; rfl
theorem okL_le {l : List UInt8} (h : okL l = true) : 4 ≤ l.length ∧ 0 ≤ num32 l := by
  unfold okL at h; simp only [Bool.and_eq_true, decide_eq_true_eq] at h; exact h
theorem lenD_ok {d : Int} {l : List UInt8} (hd : 0 ≤ d ∧ d ≤ 16) : ∃ n, n = IntKind.i32.wrap (num32 l + d) ∧ ((if n < 0 then false else okL l) = (lenD d l).isSome) ∧ ∀ m, lenD d l = some m → n = m ∧ m < 2147483648 := by
  refine ⟨_, rfl, ?_, fun m h => ?_⟩
  · obtain ⟨r1, r2⟩ := num32_range l
    unfold lenD
    by_cases hk : okL l = true
    · obtain ⟨h1, h2⟩ := okL_le hk
      rw [hk]
      by_cases h3 : num32 l + d < 2147483648
      · rw [i32_small (by omega) h3, if_neg (by omega), if_pos ⟨h1, h2, h3⟩]; rfl
      · have : IntKind.i32.wrap (num32 l + d) < 0 := by rw [i32_wrap]; split <;> omega
        rw [if_pos this, if_neg (fun h => h3 h.2.2)]; rfl
    · have : ¬ (4 ≤ l.length ∧ 0 ≤ num32 l ∧ num32 l + d < 2147483648) := fun h => hk (by unfold okL; simp [h.1, h.2.1])
      rw [if_neg this]
      simp only [Bool.not_eq_true] at hk
      rw [hk]; split <;> rfl
  · unfold lenD at h
    split at h
    · rename_i hc
      injection h with h; subst h
      rw [i32_small (by omega) hc.2.2]; omega
    · cases h
theorem kinds_cases (k : Int) : ((k = 3 ∨ k = 4 ∨ k = 15 ∨ k = 5 ∨ k = 12 ∨ k = 13 ∨ k = 2 ∨ k = 14) ∨ (k = 8 ∨ k = 9 ∨ k = 1 ∨ k = 18 ∨ k = 17 ∨ k = 19 ∨ k = 16 ∨ k = 127 ∨ k = 255 ∨ k = 10 ∨ k = 6 ∨ k = 7)) ∨ k = 11 ∨
    (k ≠ 1 ∧ k ≠ 2 ∧ k ≠ 3 ∧ k ≠ 4 ∧ k ≠ 5 ∧ k ≠ 6 ∧ k ≠ 7 ∧ k ≠ 8 ∧ k ≠ 9 ∧ k ≠ 10 ∧ k ≠ 11 ∧ k ≠ 12 ∧ k ≠ 13 ∧ k ≠ 14 ∧ k ≠ 15 ∧ k ≠ 16 ∧ k ≠ 17 ∧ k ≠ 18 ∧ k ≠ 19 ∧ k ≠ 127 ∧ k ≠ 255) := by omega

theorem c_vLen (k : Int) (o : Option (List UInt8)) (hl : (bl o).length < 2147483648) : ∃ n, (∀ hE : H, callω fns 164 [bAV 5 o, .int .u8 k] hE = some (.tup [.int .i32 n, .bool (vLen k (bl o)).isSome], hE)) ∧ ∀ m, vLen k (bl o) = some m → n = m ∧ m < 2147483648 := by
  have hR := c_RLen o
  have num : ∀ d : Int, (0 ≤ d ∧ d ≤ 16) → vLen k (bl o) = lenD d (bl o) → (k = 3 ∨ k = 4 ∨ k = 15) ∧ d = 0 ∨ k = 5 ∧ d = 5 ∨ k = 12 ∧ d = 16 ∨ (k = 13 ∨ k = 2 ∨ k = 14) ∧ d = 4 →
      ∃ n, (∀ hE : H, callω fns 164 [bAV 5 o, .int .u8 k] hE = some (.tup [.int .i32 n, .bool (vLen k (bl o)).isSome], hE)) ∧ ∀ m, vLen k (bl o) = some m → n = m ∧ m < 2147483648 := by
    intro d hd hv hk
    obtain ⟨n, hn, h1, h2⟩ := lenD_ok (l := bl o) hd
    obtain ⟨r1, r2⟩ := num32_range (bl o)
    rw [hv]
    refine ⟨n, fun hE => ?_, h2⟩
    rw [← h1]
    refine run164 (Nat.le_of_ble_eq_true rfl) ?_
    generalize okL (bl o) = b at *
    rcases hk with ⟨rfl | rfl | rfl, rfl⟩ | ⟨rfl, rfl⟩ | ⟨rfl, rfl⟩ | ⟨rfl | rfl | rfl, rfl⟩ <;>
      (by_cases h0 : n < 0) <;> first
        | (have e : n = num32 (bl o) := by rw [hn, Int.add_zero, i32_small r1 r2]
           rw [e] at h0 ⊢; simp [hR, h0, exV])
        | (simp [hR, ← hn, h0, exV])
  have fixed : ∀ z : Nat, vLen k (bl o) = some z → z < 100 → (∀ hE : H, callω fns 164 [bAV 5 o, .int .u8 k] hE = some (.tup [.int .i32 z, .bool true], hE)) →
      ∃ n, (∀ hE : H, callω fns 164 [bAV 5 o, .int .u8 k] hE = some (.tup [.int .i32 n, .bool (vLen k (bl o)).isSome], hE)) ∧ ∀ m, vLen k (bl o) = some m → n = m ∧ m < 2147483648 := by
    intro z hv hz h
    rw [hv]
    exact ⟨z, h, fun m hm => by injection hm with hm; subst hm; exact ⟨rfl, by omega⟩⟩
  rcases kinds_cases k with (hk | hk) | rfl | hk
  · rcases hk with rfl | rfl | rfl | rfl | rfl | rfl | rfl | rfl
    · exact num 0 (by omega) rfl (by omega)
    · exact num 0 (by omega) rfl (by omega)
    · exact num 0 (by omega) rfl (by omega)
    · exact num 5 (by omega) rfl (by omega)
    · exact num 16 (by omega) rfl (by omega)
    · exact num 4 (by omega) rfl (by omega)
    · exact num 4 (by omega) rfl (by omega)
    · exact num 4 (by omega) rfl (by omega)
  · rcases hk with rfl | rfl | rfl | rfl | rfl | rfl | rfl | rfl | rfl | rfl | rfl | rfl
    · exact fixed 1 rfl (by omega) fun hE => run164 (Nat.le_of_ble_eq_true rfl) (by simp)
    · exact fixed 8 rfl (by omega) fun hE => run164 (Nat.le_of_ble_eq_true rfl) (by simp)
    · exact fixed 8 rfl (by omega) fun hE => run164 (Nat.le_of_ble_eq_true rfl) (by simp)
    · exact fixed 8 rfl (by omega) fun hE => run164 (Nat.le_of_ble_eq_true rfl) (by simp)
    · exact fixed 8 rfl (by omega) fun hE => run164 (Nat.le_of_ble_eq_true rfl) (by simp)
    · exact fixed 16 rfl (by omega) fun hE => run164 (Nat.le_of_ble_eq_true rfl) (by simp)
    · exact fixed 4 rfl (by omega) fun hE => run164 (Nat.le_of_ble_eq_true rfl) (by simp)
    · exact fixed 0 rfl (by omega) fun hE => run164 (Nat.le_of_ble_eq_true rfl) (by simp)
    · exact fixed 0 rfl (by omega) fun hE => run164 (Nat.le_of_ble_eq_true rfl) (by simp)
    · exact fixed 0 rfl (by omega) fun hE => run164 (Nat.le_of_ble_eq_true rfl) (by simp)
    · exact fixed 0 rfl (by omega) fun hE => run164 (Nat.le_of_ble_eq_true rfl) (by simp)
    · exact fixed 12 rfl (by omega) fun hE => run164 (Nat.le_of_ble_eq_true rfl) (by simp)
  · have hv : vLen 11 (bl o) = rxLen (bl o) := rfl
    rw [hv]
    have hI := c_IndexNul o
    unfold rxLen
    cases h1 : nul (bl o) with
    | none =>
      rw [h1] at hI
      refine ⟨0, fun hE => ?_, fun m hm => by cases hm⟩
      refine run164 (Nat.le_of_ble_eq_true rfl) ?_
      simp [hI]
    | some i =>
      rw [h1] at hI
      have hil := (nul_lt h1).1
      cases o with
      | none => simp [bl] at hil
      | some l =>
        simp only [bl] at h1 hil hl hI ⊢
        have hJ := c_IndexNul (some (l.drop (i + 1)))
        simp only [bl] at hJ
        have hs : ∀ h : H, slSl h 1 (bAV 5 (some l)) (some ((i : Int) + 1)) (some (l.length : Int)) = some (bAV 5 (some (l.drop (i + 1)))) := fun h => by
          rw [sl_b (by omega) (by omega) (by omega)]
          have e1 : ((i : Int) + 1).toNat = i + 1 := by omega
          rw [e1, Int.toNat_natCast, List.take_of_length_le (by rw [List.length_drop]; omega)]
        have w1 : IntKind.i64.wrap ((i : Int) + 1) = i + 1 := wrap_i64 (by omega) (by omega)
        have gi : ¬ ((i : Int) < 0) := by omega
        cases h2 : nul (l.drop (i + 1)) with
        | none =>
          rw [h2] at hJ
          refine ⟨0, fun hE => ?_, fun m hm => by simp [h2] at hm⟩
          refine run164 (Nat.le_of_ble_eq_true rfl) ?_
          simp [hI, w1, gi, hs, hJ, bl, h2]
        | some j =>
          rw [h2] at hJ
          have hjl := (nul_lt h2).1
          rw [List.length_drop] at hjl
          have gj : ¬ ((j : Int) < 0) := by omega
          have w2 : IntKind.i64.wrap ((i : Int) + 1 + j) = i + 1 + j := wrap_i64 (by omega) (by omega)
          have w3 : IntKind.i64.wrap ((i : Int) + 1 + j + 1) = i + 1 + j + 1 := wrap_i64 (by omega) (by omega)
          have w4 : IntKind.i32.wrap ((i : Int) + 1 + j + 1) = i + 1 + j + 1 := i32_small (by omega) (by omega)
          have ge : ¬ ((i : Int) + 1 + j + 1 < 0) := by omega
          refine ⟨(i : Int) + 1 + j + 1, fun hE => ?_, fun m hm => by simp [h2] at hm; omega⟩
          refine run164 (Nat.le_of_ble_eq_true rfl) ?_
          simp [hI, w1, w2, w3, w4, gi, gj, ge, hs, hJ, bl, h2]
  · obtain ⟨h1, h2, h3, h4, h5, h6, h7, h8, h9, h10, h11, h12, h13, h14, h15, h16, h17, h18, h19, h20, h21⟩ := hk
    have hv : vLen k (bl o) = none := by
      unfold vLen; simp [h1, h2, h3, h4, h5, h6, h7, h8, h9, h10, h11, h12, h13, h14, h15, h16, h17, h18, h19, h20, h21]
    rw [hv]
    refine ⟨0, fun hE => ?_, fun m hm => by cases hm⟩
    refine run164 (Nat.le_of_ble_eq_true rfl) ?_
    simp [h1, h2, h3, h4, h5, h6, h7, h8, h9, h10, h11, h12, h13, h14, h15, h16, h17, h18, h19, h20, h21]
end Go.Proofs.YtcodfehgnjplcaaGreatDoor.Abs

/- Values and elements cut off any bytes. -/
namespace Go.Proofs.YtcodfehgnjplcaaGreatDoor.Abs
set_option linter.all false
open Go.Proofs
set_option linter.unusedVariables false
set_option linter.unusedSimpArgs false
set_option maxRecDepth 100000
set_option maxHeartbeats 8000000

theorem nulD_cons (c : UInt8) (r : List UInt8) : (nul (c :: r)).getD (c :: r).length = if c = 0 then 0 else (nul r).getD r.length + 1 := by
  show (if c = 0 then some 0 else (nul r).map (· + 1)).getD _ = _
  split
  · rfl
  · cases nul r <;> rfl
theorem l_ReadElement {t : UInt8} : ∀ (rest pre : List UInt8) (st : St), st.s 0 = bAV 5 (some (t :: (pre ++ rest))) → st.s 6 = .int .i64 (pre.length + 1 : Nat) → (pre ++ rest).length < 2147483648 → ∀ Q : Ex × St → Prop,
    (∀ st' : St, st'.h = st.h → st'.s 0 = st.s 0 → st'.s 5 = st.s 5 → st'.s 6 = .int .i64 (pre.length + 1 + (nul rest).getD rest.length : Nat) → Q (.exit 0, st')) → LoopR fns lc64_0 st Q
  | [], pre, st, h0, h6, hl, Q, hA => by
    refine loopω_run fns ?_
    simp only [List.append_nil] at h0 hl
    have hlen : (bl (some (t :: pre))).length = pre.length + 1 := by simp [bl]
    have g : ¬ ((pre.length : Int) + 1 < (pre.length + 1 : Nat)) := by omega
    have g2 : ¬ ((pre.length : Int) + 1 < (pre.length : Int) + 1) := by omega
    simp only [Int.natCast_add, Int.natCast_one] at h6
    simp [h0, h6, bl, g2, g]
    refine hA _ ?_ ?_ ?_ ?_ <;> simp [h0, h6, bl, nul]
  | c :: rest, pre, st, h0, h6, hl, Q, hA => by
    refine loopω_run fns ?_
    have hlt : pre.length + 1 < (t :: (pre ++ c :: rest)).length := by simp
    have g : ((pre.length : Int) + 1 < (pre.length : Int) + ((rest.length : Int) + 1) + 1) := by omega
    have hget : (t :: (pre ++ c :: rest))[pre.length + 1] = c := by simp
    have hix := bAV_at (e := 5) hlt
    rw [hget] at hix
    simp only [Int.natCast_add, Int.natCast_one] at h6 hix
    by_cases hc : c = 0
    · have hc' : c.toNat = 0 := by rw [hc]; rfl
      simp [h0, h6, bl, g, hix, hc']
      refine hA _ ?_ ?_ ?_ ?_ <;> simp [h0, h6, nul, hc]
    · have hc' : ¬ c.toNat = 0 := fun e => hc (UInt8.toNat_inj.1 e)
      have w : IntKind.i64.wrap ((pre.length : Int) + 1 + 1) = pre.length + 1 + 1 := wrap_i64 (by omega) (by simp at hl; omega)
      simp [h0, h6, bl, g, hix, hc', w]
      refine l_ReadElement (t := t) rest (pre ++ [c]) _ ?_ ?_ ?_ Q ?_
      · simp [h0]
      · simp
      · simpa using hl
      · intro st' k1 k2 k3 k4
        refine hA st' ?_ ?_ ?_ ?_
        · simp [k1]
        · simp [k2, h0]
        · simp [k3]
        · rw [k4, nulD_cons, if_neg hc]; simp; omega

def eRes (l : List UInt8) : AV :=
  match eGet l with
  | some m => .tup [bAV 5 (some (l.take m)), bAV 5 (some (l.drop m)), .bool true]
  | none => .tup [bAV 5 none, bAV 5 (some l), .bool false]

theorem sl_to {hp : H} {e : Nat} {l : List UInt8} {m : Nat} (h : m ≤ l.length) : slSl hp 1 (bAV e (some l)) (some 0) (some (m : Int)) = some (bAV e (some (l.take m))) := by
  rw [sl_b (by omega) (by omega) (by omega)]; simp
theorem sl_from {hp : H} {e : Nat} {l : List UInt8} {m : Nat} (h : m ≤ l.length) : slSl hp 1 (bAV e (some l)) (some (m : Int)) (some (l.length : Int)) = some (bAV e (some (l.drop m))) := by
  rw [sl_b (by omega) (by omega) (by omega)]
  rw [Int.toNat_natCast, Int.toNat_natCast, List.take_of_length_le (by rw [List.length_drop]; omega)]

theorem c_ReadElement (l : List UInt8) (hl : l.length < 2147483648) : ∀ hE : H, callω fns 64 [bAV 5 (some l)] hE = some (eRes l, hE) := by
  intro hE
  have e0 : AV.slice .nil 0 1 [] = bAV 5 none := rfl
  refine run64 (Nat.le_of_ble_eq_true rfl) ?_
  cases l with
  | nil => simp [eRes, eGet, bl, e0]
  | cons t r =>
    have h1 : ¬ ((r.length : Int) + 1 < 1) := by omega
    have hix := bAV_at (e := 5) (l := t :: r) (k := 0) (by simp)
    simp only [List.getElem_cons_zero, Int.natCast_zero, Int.cast_ofNat_Int] at hix
    have hix0 : ixV 1 (bAV 5 (some (t :: r))) (.int .i64 0) = some (.eptr (.int .u8 (t.toNat : Int) :: byteCells ((t :: r).drop (0 + 1)))) := hix
    simp [bl, h1, hix0]
    refine l_ReadElement (t := t) r [] _ (by simp) (by simp) (by simp at hl ⊢; omega) _ fun st' k1 k2 k3 k4 => ?_
    simp at k2 k3 k4
    cases hn : nul r with
    | none =>
      rw [hn] at k4
      have g : (r.length : Int) + 1 ≤ 1 + (r.length : Int) := by omega
      simp [k2, k4, bl, g, eRes, eGet, hn, k1, e0]
    | some i =>
      rw [hn] at k4
      have hil := (nul_lt hn).1
      have g : ¬ ((r.length : Int) + 1 ≤ 1 + (i : Int)) := by omega
      have w1 : IntKind.i64.wrap (1 + (i : Int) + 1) = (i + 2 : Nat) := by rw [wrap_i64 (by omega) (by simp at hl; omega)]; omega
      have s1 : ∀ hp : H, slSl hp 1 (bAV 5 (some (t :: r))) (some ((i + 2 : Nat) : Int)) (some ((r.length : Int) + 1)) = some (bAV 5 (some (r.drop (i + 1)))) := fun hp => by
        have := sl_from (hp := hp) (e := 5) (l := t :: r) (m := i + 2) (by simp; omega)
        simpa using this
      obtain ⟨n, hV, hV2⟩ := c_vLen t.toNat (some (r.drop (i + 1))) (by simp [bl] at hl ⊢; omega)
      simp only [bl] at hV hV2
      cases hv : vLen (t.toNat : Int) (r.drop (i + 1)) with
      | none =>
        rw [hv] at hV
        simp only [Int.natCast_add, Int.cast_ofNat_Int] at s1 w1
        simp [k2, k3, k4, bl, g, w1, s1, hV, eRes, eGet, hn, hv, k1, e0, ex2_0, ex2_1]
      | some m =>
        obtain ⟨rfl, hm⟩ := hV2 m hv
        rw [hv] at hV
        have w2 : IntKind.i64.wrap (m : Int) = m := wrap_i64 (by omega) (by omega)
        have w3 : IntKind.i64.wrap ((i : Int) + 2 + m) = (i + 2 + m : Nat) := by rw [wrap_i64 (by omega) (by simp at hl; omega)]; omega
        by_cases hle : i + 2 + m ≤ r.length + 1
        · have g2 : ¬ ((r.length : Int) + 1 < ((i + 2 + m : Nat) : Int)) := by omega
          have s2 : ∀ hp : H, slSl hp 1 (bAV 5 (some (t :: r))) (some 0) (some ((i + 2 + m : Nat) : Int)) = some (bAV 5 (some ((t :: r).take (i + 2 + m)))) := fun hp => sl_to (by simp; omega)
          have s3 : ∀ hp : H, slSl hp 1 (bAV 5 (some (t :: r))) (some ((i + 2 + m : Nat) : Int)) (some ((r.length : Int) + 1)) = some (bAV 5 (some ((t :: r).drop (i + 2 + m)))) := fun hp => by
            have := sl_from (hp := hp) (e := 5) (l := t :: r) (m := i + 2 + m) (by simp; omega)
            simpa only [List.length_cons, Int.natCast_add, Int.natCast_one] using this
          have hr : eRes (t :: r) = .tup [bAV 5 (some ((t :: r).take (i + 2 + m))), bAV 5 (some ((t :: r).drop (i + 2 + m))), .bool true] := by
            simp [eRes, eGet, hn, hv, hle]
          rw [hr]
          generalize (t :: r).take (i + 2 + m) = X at *
          generalize (t :: r).drop (i + 2 + m) = Y at *
          simp only [Int.natCast_add, Int.cast_ofNat_Int] at s1 w1 s2 s3 w3 g2
          simp [k2, k3, k4, bl, g, w1, w2, w3, s1, s2, s3, g2, hV, k1, ex2_0, ex2_1]
        · have g2 : ((r.length : Int) + 1 < ((i + 2 + m : Nat) : Int)) := by omega
          have hr : eRes (t :: r) = .tup [bAV 5 none, bAV 5 (some (t :: r)), .bool false] := by
            simp [eRes, eGet, hn, hv, hle]
          rw [hr]
          simp only [Int.natCast_add, Int.cast_ofNat_Int] at s1 w1 w3 g2
          simp [k2, k3, k4, bl, g, w1, w2, w3, s1, g2, hV, k1, e0, ex2_0, ex2_1]

def vData (k : Int) (o : Option (List UInt8)) : Option (List UInt8) := match vGet k (bl o) with | some n => o.map (·.take n) | none => none
def vRest (k : Int) (o : Option (List UInt8)) : Option (List UInt8) := match vGet k (bl o) with | some n => o.map (·.drop n) | none => o
theorem c_readVal (k : Int) (o : Option (List UInt8)) (hl : (bl o).length < 2147483648) :
    ∀ hE : H, callω fns 163 [bAV 5 o, .int .u8 k] hE = some (.tup [bAV 5 (vData k o), bAV 5 (vRest k o), .bool (vGet k (bl o)).isSome], hE) := by
  intro hE
  obtain ⟨n, hV, hV2⟩ := c_vLen k o hl
  have e0 : AV.slice .nil 0 1 [] = bAV 5 none := rfl
  unfold vData vRest vGet
  cases hv : vLen k (bl o) with
  | none =>
    rw [hv] at hV
    refine run163 (Nat.le_of_ble_eq_true rfl) ?_
    simp [hV, hv, ex2_0, ex2_1, e0]
  | some m =>
    obtain ⟨rfl, hm⟩ := hV2 m hv
    rw [hv] at hV
    have w : IntKind.i64.wrap (m : Int) = m := wrap_i64 (by omega) (by omega)
    by_cases hle : m ≤ (bl o).length
    · have g : ¬ (((bl o).length : Int) < m) := by omega
      cases o with
      | none =>
        simp only [bl, List.length_nil, Nat.le_zero] at hle
        subst hle
        have sn : ∀ hp : H, slSl hp 1 (bAV 5 none) (some 0) (some 0) = some (bAV 5 none) := fun hp => by simp [slSl, bAV]
        refine run163 (Nat.le_of_ble_eq_true rfl) ?_
        have w0 : IntKind.i64.wrap 0 = 0 := rfl
        simp [hV, hv, ex2_0, ex2_1, bl, sn, w0]
      | some l =>
        simp only [bl] at hle g
        have s1 : ∀ hp : H, slSl hp 1 (bAV 5 (some l)) (some 0) (some (m : Int)) = some (bAV 5 (some (l.take m))) := fun hp => sl_to hle
        have s2 : ∀ hp : H, slSl hp 1 (bAV 5 (some l)) (some (m : Int)) (some (l.length : Int)) = some (bAV 5 (some (l.drop m))) := fun hp => sl_from hle
        refine run163 (Nat.le_of_ble_eq_true rfl) ?_
        simp [hV, hv, w, g, s1, s2, ex2_0, ex2_1, bl, hle]
    · have g : (((bl o).length : Int) < m) := by omega
      refine run163 (Nat.le_of_ble_eq_true rfl) ?_
      simp [hV, hv, w, g, ex2_0, ex2_1, hle, e0]
theorem c_NewIBE (a b : Option (List UInt8)) : ∀ hE : H, callω fns 166 [bAV 5 a, bAV 5 b] hE = some (.agg [bAV 5 a, bAV 5 b], hE) := by
  intro hE
  refine run166 (Nat.le_of_ble_eq_true rfl) ?_
  simp
def xFew (a b : Option (List UInt8)) : AV := .iface 239 (.agg [bAV 5 a, bAV 5 b])
theorem mk_few (a b : Option (List UInt8)) : mkI 239 (.agg [bAV 5 a, bAV 5 b]) = some (xFew a b) := by simp [mkI, xFew]
@[simp] theorem xFew_gv (a b) : gvV (xFew a b) = xFew a b := rfl
@[simp] theorem xFew_hd (a b) : hdV (xFew a b) = xFew a b := rfl
@[simp] theorem xFew_lf (a b) : lfV (xFew a b) = xFew a b := rfl
@[simp] theorem xFew_left (a b) : (xFew a b).cls .left = xFew a b := rfl
@[simp] theorem xFew_cpV (m : Mode) (a b) : cpV m (xFew a b) = xFew a b := by cases m <;> rfl
@[simp] theorem xFew_cpS (m : Mode) (a b) : cpS m (xFew a b) = xFew a b := by cases m <;> rfl
@[simp] theorem xFew_plain (a b) : (xFew a b).plain = true := rfl
@[simp] theorem xFew_cells (a b) : (xFew a b).cells = [xFew a b] := rfl
@[simp] theorem xFew_several (a b) : (xFew a b).several = false := rfl
@[simp] theorem xFew_kill (t : Nat) (a b) : (xFew a b).kill t = xFew a b := rfl
@[simp] theorem xFew_takeU {st : St} {n : Nat} (a b) : takeU (xFew a b) st n = (xFew a b, st.set n (xFew a b)) := rfl
@[simp high] theorem xFew_eqnil (a b) : aEq 5 true (xFew a b) .nilI = some false := rfl
@[simp high] theorem xFew_neqnil (a b) : aBin .neq 5 true (xFew a b) .nilI = some (.bool true) := rfl
@[simp high] theorem xFew_eqlnil (a b) : aBin .eql 5 true (xFew a b) .nilI = some (.bool false) := rfl

def xVal (k : Int) (o : Option (List UInt8)) : AV := if (vGet k (bl o)).isSome then .nilI else xFew o o
theorem c_ValValidate (k : Int) (o : Option (List UInt8)) (hl : (bl o).length < 2147483648) :
    ∀ hE : H, callω fns 67 [.agg [.int .u8 k, bAV 5 o]] hE = some (xVal k o, hE) := by
  intro hE
  have h := c_readVal k o hl
  have e := c_NewIBE o o
  unfold xVal
  generalize vData k o = X at *
  generalize vRest k o = Y at *
  generalize (vGet k (bl o)).isSome = b at *
  refine run67 (Nat.le_of_ble_eq_true rfl) ?_
  cases b
  · simp [h, ex3_0, ex3_1, ex3_2, e, mk_few]
  · simp [h, ex3_0, ex3_1, ex3_2]
theorem c_ReadVal (k : Int) (o : Option (List UInt8)) (hl : (bl o).length < 2147483648) :
    ∀ hE : H, callω fns 61 [bAV 5 o, .int .u8 k] hE =
      some (if (vGet k (bl o)).isSome then .tup [.agg [.int .u8 k, bAV 5 (vData k o)], bAV 5 (vRest k o), .bool true] else .tup [.agg [.int .u8 0, bAV 5 none], bAV 5 o, .bool false], hE) := by
  intro hE
  have h := c_readVal k o hl
  have e0 : AV.slice .nil 0 1 [] = bAV 5 none := rfl
  generalize vData k o = X at *
  generalize vRest k o = Y at *
  generalize (vGet k (bl o)).isSome = b at *
  refine run61 (Nat.le_of_ble_eq_true rfl) ?_
  cases b
  · simp [h, ex3_0, ex3_1, ex3_2, e0]
  · simp [h, ex3_0, ex3_1, ex3_2]
end Go.Proofs.YtcodfehgnjplcaaGreatDoor.Abs
